import JvmDerived
import JvmDerived.Pilot.@@N@@Statement
import JvmDerived.Pilot.@@N@@Code
set_option linter.unusedVariables false
set_option linter.unusedSimpArgs false
namespace Jvm.RoadKit
open Sem ClassFile Op Lib Jvm.Stand Jvm.Free Jvm.LawKit
section OwnKit
/-- what stands at a point of the walk: the law's Stand, its written places all new, the heap named; w: may have interned -/
def own_X (w : Bool) (p : Program) (l : Launch) (e : Env) (R : Room) (s : State) (m : MethodId) (args : Array Value) (below : List Frame) (meth : Method) (c : Code) (Z : State) (T : State) (h : Heap) (k n : Nat) : Prop :=
  ∃ (L : List Loc) (vm : Vm), Stand p l e R (s.setVm vm) m args below meth c T L k n ∧ Fr Z.heap.size L ∧ T.heap = h ∧ (w = false → vm = s.vm) ∧ s.Since vm h.size
def own_Cx (p : Program) (s : State) (m : MethodId) (meth : Method) (c : Code) (Z : State) (own nm : String) (bytes : ByteArray) (maxL : Nat) (ret : Option FieldType) : Prop :=
  p.tables.exec = Jvm.exec ∧ c.code = bytes ∧ c.maxLocals = maxL ∧ meth.sig.returnType = ret ∧ meth.locks = false ∧ Z.Warmed39 s.vm ∧ s.vm.findClass own = some m.cls ∧ meth.name = nm
def own_Go (w : Bool) (p : Program) (l : Launch) (e : Env) (R : Room) (s : State) (m : MethodId) (args : Array Value) (below : List Frame) (meth : Method) (c : Code) (Z : State) (Q : Option Value → Heap → Prop) (T : State) (g : JFrame) : Prop :=
  ∃ (T' : State) (v : Option Value) (h' : Heap) (k' n' : Nat), own_X w p l e R s m args below meth c Z T' h' k' n' ∧ k' ≤ R.cells ∧ n' ≤ R.slots ∧ (meth.sig.returnType = none → v = none) ∧ Q v h' ∧
    ∀ fs, (∀ (f : JFrame) (acts : List Action), f.method = m → f.locked = none → f.entered = [] → (doReturn e (T'.setTop f) acts v).1 = T'.setFrames fs) → Steps p.tables e below (T.setTop g) (T'.setFrames fs)
/-- from the frame g, over the heap h, with k cells and n slots made, the walk comes to a return of which Q holds -/
def own_G (w : Bool) (p : Program) (l : Launch) (e : Env) (R : Room) (s : State) (m : MethodId) (args : Array Value) (below : List Frame) (meth : Method) (c : Code) (Z : State) (Q : Option Value → Heap → Prop) (h : Heap) (k n : Nat) (g : JFrame) : Prop :=
  ∀ T, own_X w p l e R s m args below meth c Z T h k n → own_Go w p l e R s m args below meth c Z Q T g
def own_D (bytes : ByteArray) (pc : Nat) (i : Instr) (len pc' : Nat) : Prop := decode bytes pc = .ok (i, len) ∧ pc' = pc + len
def own_B (bytes : ByteArray) (pc : Nat) (i : Instr) (off : Int) (pcF pcT : Nat) : Prop := decode bytes pc = .ok (i, 3) ∧ pcF = pc + 3 ∧ 0 ≤ (pc : Int) + off ∧ ((pc : Int) + off).toNat = pcT
def own_End (w : Bool) (U : State) (o : Outcome) (U' : State) (L : List Loc) (k n : Nat) : Prop := match w with | false => FrameEnd U o U' L k n | true => ReturnedEndW U o U' L k n
def own_Met (w : Bool) (l : Launch) (Z : State) (y : MethodName) (bytes : ByteArray) (maxL : Nat) (ret : Option FieldType) (ws : List Cond) (rm : Room) (as' : Array Value) (h : Heap) (Q : Option Value → Heap → Prop) : Prop :=
  MetFree l y (head1 (Cond.code y bytes maxL ret :: ws) rm) (fun a U => a = as' ∧ Z.Warmed39 U.vm ∧ U.heap = h) (fun _ _ _ _ _ => True)
    (fun _ U o U' => ∃ v L, o = .returned v ∧ (Q v U'.heap ∧ Fr Z.heap.size L ∧ h.size ≤ U'.heap.size) ∧ own_End w U o U' L rm.cells rm.slots)
/-! ## heap -/
abbrev own_O := Addr × String × List (String × String × String × Value)
abbrev own_A := Addr × FieldType × String × List Value
def own_OK (Z : State) (h : Heap) (o : own_O) : Prop := Exa Z h o.1 o.2.1 ∧ (∀ f ∈ o.2.2, Fld Z h o.1 f.1 f.2.1 f.2.2.1 f.2.2.2) ∧ o.2.2.Pairwise (fun f g => slotOf Z f.1 f.2.1 f.2.2.1 ≠ slotOf Z g.1 g.2.1 g.2.2.1)
def own_AK (Z : State) (h : Heap) (a : own_A) : Prop := ∃ cl : Cell, Arr Z h a.1 cl a.2.1 ∧ cl.slots.toList = a.2.2.2 ∧ (∀ v ∈ a.2.2.2, fits a.2.1 v = true) ∧ (a.2.2.1 ≠ "" → Exa Z h a.1 a.2.2.1) ∧ (∀ C, a.2.1 = .object C → a.2.2.1 ≠ "" → Ovr Z cl.cls C)
/-- the heap h: what stood at the law's start Z stands; the objects os and the arrays as, all new, all apart -/
def own_H (Z : State) (h : Heap) (os : List own_O) (as : List own_A) : Prop :=
  Ext Z.heap h ∧ (∀ o ∈ os, Z.heap.size ≤ o.1 ∧ own_OK Z h o) ∧ (∀ a ∈ as, Z.heap.size ≤ a.1 ∧ own_AK Z h a) ∧ (os.map (·.1) ++ as.map (·.1)).Nodup
variable {w : Bool} {p : Program} {l : Launch} {e : Env} {R : Room} {s : State} {m : MethodId} {args : Array Value} {below : List Frame} {meth : Method} {c : Code} {Z : State} {a0 : Array Value} {own nm : String} {bytes : ByteArray} {maxL : Nat} {ret : Option FieldType} {Q : Option Value → Heap → Prop} {h h' : Heap} {k n k' n' : Nat} {pc pc' pcT : Nat} {Ls Ls' : Array Slot} {st rest : List Value} {os os' : List own_O} {as as' : List own_A} {g g' : JFrame} {tyR : FieldType}
theorem own_H.start (Z : State) : own_H Z Z.heap [] [] := ⟨⟨Nat.le_refl _, fun _ _ q => q⟩, fun _ q => (nomatch q), fun _ q => (nomatch q), List.nodup_nil⟩
theorem own_OK.ext {o : own_O} (E : Ext h h') (F : own_OK Z h o) : own_OK Z h' o := ⟨F.1.ext E, fun f hf => (F.2.1 f hf).ext E, F.2.2⟩
theorem own_AK.ext {a : own_A} (E : Ext h h') (F : own_AK Z h a) : own_AK Z h' a := by
  obtain ⟨cl, h1, h2, h3, h4, h5⟩ := F; exact ⟨cl, h1.ext E, h2, h3, fun q => (h4 q).ext E, h5⟩
theorem own_H.ext (H : own_H Z h os as) (E : Ext h h') : own_H Z h' os as :=
  ⟨⟨Nat.le_trans H.1.1 E.1, fun a c q => E.2 a c (H.1.2 a c q)⟩, fun o ho => ⟨(H.2.1 o ho).1, (H.2.1 o ho).2.ext E⟩, fun a ha => ⟨(H.2.2.1 a ha).1, (H.2.2.1 a ha).2.ext E⟩, H.2.2.2⟩
theorem own_H.ltO (H : own_H Z h os as) {o : own_O} (ho : o ∈ os) : o.1 < h.size := (H.2.1 o ho).2.1.lt
theorem own_H.ltA (H : own_H Z h os as) {a : own_A} (ha : a ∈ as) : a.1 < h.size := by obtain ⟨-, cl, h1, -⟩ := H.2.2.1 a ha; exact h1.lt
theorem own_H.fresh (H : own_H Z h os as) : h.size ∉ os.map (·.1) ++ as.map (·.1) := fun q => by
  rcases List.mem_append.mp q with q | q
  · obtain ⟨o, ho, e⟩ := List.mem_map.mp q; exact absurd (H.ltO ho) (by rw [e]; exact Nat.lt_irrefl _)
  · obtain ⟨o, ho, e⟩ := List.mem_map.mp q; exact absurd (H.ltA ho) (by rw [e]; exact Nat.lt_irrefl _)
theorem own_H.addO (H : own_H Z h os as) (E : Ext h h') {C : String} {fs : List (String × String × String × Value)} (F : own_OK Z h' (h.size, C, fs)) : own_H Z h' ((h.size, C, fs) :: os) as := by
  have H' := H.ext E
  refine ⟨H'.1, fun o ho => ?_, H'.2.2.1, ?_⟩
  · rcases List.mem_cons.mp ho with rfl | ho
    · exact ⟨H.1.1, F⟩
    · exact H'.2.1 o ho
  · exact List.nodup_cons.mpr ⟨H.fresh, H.2.2.2⟩
theorem own_H.addA (H : own_H Z h os as) (E : Ext h h') {ty : FieldType} {ad : String} {vs : List Value} (F : own_AK Z h' (h.size, ty, ad, vs)) : own_H Z h' os ((h.size, ty, ad, vs) :: as) := by
  have H' := H.ext E
  refine ⟨H'.1, H'.2.1, fun o ho => ?_, ?_⟩
  · rcases List.mem_cons.mp ho with rfl | ho
    · exact ⟨H.1.1, F⟩
    · exact H'.2.2.1 o ho
  · have q := H.fresh
    rw [List.mem_append] at q
    have q2 := List.nodup_append.mp H.2.2.2
    refine List.nodup_append.mpr ⟨q2.1, List.nodup_cons.mpr ⟨fun z => q (Or.inr z), q2.2.1⟩, fun x hx y hy => ?_⟩
    rcases List.mem_cons.mp hy with rfl | hy
    · intro z; exact q (Or.inl ((show x = h.size from z) ▸ hx))
    · exact q2.2.2 x hx y hy
theorem own_mem {α : Type} {L : List α} {i : Nat} {x : α} (hx : L[i]? = some x) : x ∈ L := List.mem_of_getElem? hx
theorem own_H.atO (H : own_H Z h os as) {i : Nat} {a : Addr} {C : String} {fs : List (String × String × String × Value)} (ho : os[i]? = some (a, C, fs)) : Exa Z h a C := (H.2.1 _ (own_mem ho)).2.1
theorem own_H.newO (H : own_H Z h os as) {i : Nat} {a : Addr} {C : String} {fs : List (String × String × String × Value)} (ho : os[i]? = some (a, C, fs)) : Z.heap.size ≤ a := (H.2.1 _ (own_mem ho)).1
theorem own_H.fld (H : own_H Z h os as) {i q : Nat} {a : Addr} {C O f d : String} {v : Value} {fs : List (String × String × String × Value)} (ho : os[i]? = some (a, C, fs)) (hf : fs[q]? = some (O, f, d, v)) : Fld Z h a O f d v := (H.2.1 _ (own_mem ho)).2.2.1 _ (own_mem hf)
theorem own_H.neOO (H : own_H Z h os as) {i j : Nat} {x y : own_O} (hx : os[i]? = some x) (hy : os[j]? = some y) (ij : i ≠ j) : x.1 ≠ y.1 := fun e => by
  have q := (List.nodup_append.mp H.2.2.2).1
  have h1 : (os.map (·.1))[i]? = some x.1 := by rw [List.getElem?_map, hx]; rfl
  have h2 : (os.map (·.1))[j]? = some y.1 := by rw [List.getElem?_map, hy]; rfl
  rw [← e] at h2
  have hi := (List.getElem?_eq_some_iff.mp h1).1
  exact ij ((List.getElem?_inj hi q).mp (h1.trans h2.symm))
theorem own_H.neAA (H : own_H Z h os as) {i j : Nat} {x y : own_A} (hx : as[i]? = some x) (hy : as[j]? = some y) (ij : i ≠ j) : x.1 ≠ y.1 := fun e => by
  have q := (List.nodup_append.mp H.2.2.2).2.1
  have h1 : (as.map (·.1))[i]? = some x.1 := by rw [List.getElem?_map, hx]; rfl
  have h2 : (as.map (·.1))[j]? = some y.1 := by rw [List.getElem?_map, hy]; rfl
  rw [← e] at h2
  have hi := (List.getElem?_eq_some_iff.mp h1).1
  exact ij ((List.getElem?_inj hi q).mp (h1.trans h2.symm))
theorem own_H.neOA (H : own_H Z h os as) {x : own_O} {y : own_A} (hx : x ∈ os) (hy : y ∈ as) : x.1 ≠ y.1 :=
  (List.nodup_append.mp H.2.2.2).2.2 _ (List.mem_map.mpr ⟨x, hx, rfl⟩) _ (List.mem_map.mpr ⟨y, hy, rfl⟩)
theorem own_set_map {α β : Type} {L : List α} {f : α → β} {i : Nat} {x x' : α} (hx : L[i]? = some x) (e : f x' = f x) : (L.set i x').map f = L.map f := by
  apply List.ext_getElem?
  intro j
  rw [List.getElem?_map, List.getElem?_map, List.getElem?_set]
  by_cases ij : i = j
  · subst ij; rw [hx]; have := (List.getElem?_eq_some_iff.mp hx).1; simp [this, e]
  · simp [ij]
theorem own_H.wrO (H : own_H Z h os as) {i q : Nat} {a : Addr} {C O f d : String} {v v0 : Value} {fs : List (String × String × String × Value)} (ho : os[i]? = some (a, C, fs)) (hf : fs[q]? = some (O, f, d, v0)) (W : Wr h h' a (slotOf Z O f d) v) :
    own_H Z h' (os.set i (a, C, fs.set q (O, f, d, v))) as := by
  have na := H.newO ho
  have hlen := (List.getElem?_eq_some_iff.mp ho).1
  have hql := (List.getElem?_eq_some_iff.mp hf).1
  refine ⟨?_, fun x hx => ?_, fun y hy => ?_, ?_⟩
  · refine ⟨by rw [Wr.size W]; exact H.1.1, fun b cb hb => ?_⟩
    obtain ⟨cb', e1, -, -, -, e5, -⟩ := wr_at W (H.1.2 b cb hb)
    have : b ≠ a := Nat.ne_of_lt (Nat.lt_of_lt_of_le (Array.getElem?_eq_some_iff.mp hb).1 na)
    rw [← e5 this]; exact e1
  · obtain ⟨j, hj⟩ := List.mem_iff_getElem?.mp hx
    rw [List.getElem?_set] at hj
    by_cases ij : i = j
    · subst ij
      rw [if_pos rfl, if_pos hlen] at hj
      obtain rfl := Option.some.inj hj
      obtain ⟨n1, E, F, Pw⟩ := H.2.1 _ (own_mem ho)
      refine ⟨n1, E.wr W, fun z hz => ?_, ?_⟩
      · obtain ⟨r, hr⟩ := List.mem_iff_getElem?.mp hz
        rw [List.getElem?_set] at hr
        by_cases qr : q = r
        · subst qr
          rw [if_pos rfl, if_pos hql] at hr
          obtain rfl := Option.some.inj hr
          exact Fld.same (w := v0) W (F _ (own_mem (show (a, C, fs).2.2[q]? = some (O, f, d, v0) from hf)))
        · rw [if_neg qr] at hr
          refine Fld.other W (F _ (own_mem hr)) (Or.inr fun e => ?_)
          have P2 : ∀ i j : Nat, i < j → ∀ x y, fs[i]? = some x → fs[j]? = some y → slotOf Z x.1 x.2.1 x.2.2.1 ≠ slotOf Z y.1 y.2.1 y.2.2.1 := fun i j ij x y hx hy => by
            obtain ⟨h1, rfl⟩ := List.getElem?_eq_some_iff.mp hx
            obtain ⟨h2, rfl⟩ := List.getElem?_eq_some_iff.mp hy
            exact List.pairwise_iff_getElem.mp Pw i j h1 h2 ij
          rcases Nat.lt_or_gt_of_ne qr with lt | lt
          · exact P2 q r lt _ _ hf hr e.symm
          · exact P2 r q lt _ _ hr hf e
      · have hm : (fs.set q (O, f, d, v)).map (fun f => slotOf Z f.1 f.2.1 f.2.2.1) = fs.map (fun f => slotOf Z f.1 f.2.1 f.2.2.1) := own_set_map hf rfl
        have t := List.pairwise_map.mpr Pw
        rw [← hm] at t
        exact List.pairwise_map.mp t
    · rw [if_neg ij] at hj
      obtain ⟨n1, E, F, Pw⟩ := H.2.1 _ (own_mem hj)
      exact ⟨n1, E.wr W, fun z hz => Fld.other W (F z hz) (Or.inl (H.neOO hj ho (Ne.symm ij))), Pw⟩
  · obtain ⟨n1, cl, h1, h2, h3, h4, h5⟩ := H.2.2.1 y hy
    exact ⟨n1, cl, h1.other W (Ne.symm (H.neOA (own_mem ho) hy)), h2, h3, fun q => (h4 q).wr W, h5⟩
  · rw [own_set_map (f := fun z => z.1) (x' := (a, C, fs.set q (O, f, d, v))) ho rfl]; exact H.2.2.2
theorem own_H.wrA (H : own_H Z h os as) {i q : Nat} {a : Addr} {ty : FieldType} {ad : String} {v : Value} {vs : List Value} (ha : as[i]? = some (a, ty, ad, vs)) (hq : q < vs.length) (hv : fits ty v = true) (W : Wr h h' a q v) :
    own_H Z h' os (as.set i (a, ty, ad, vs.set q v)) := by
  have na := (H.2.2.1 _ (own_mem ha)).1
  have hlen := (List.getElem?_eq_some_iff.mp ha).1
  refine ⟨?_, fun x hx => ?_, fun y hy => ?_, ?_⟩
  · refine ⟨by rw [Wr.size W]; exact H.1.1, fun b cb hb => ?_⟩
    obtain ⟨cb', e1, -, -, -, e5, -⟩ := wr_at W (H.1.2 b cb hb)
    have : b ≠ a := Nat.ne_of_lt (Nat.lt_of_lt_of_le (Array.getElem?_eq_some_iff.mp hb).1 na)
    rw [← e5 this]; exact e1
  · obtain ⟨n1, E, F, Pw⟩ := H.2.1 _ hx
    exact ⟨n1, E.wr W, fun z hz => Fld.other W (F z hz) (Or.inl (H.neOA hx (own_mem ha))), Pw⟩
  · obtain ⟨j, hj⟩ := List.mem_iff_getElem?.mp hy
    rw [List.getElem?_set] at hj
    by_cases ij : i = j
    · subst ij
      rw [if_pos rfl, if_pos hlen] at hj
      obtain rfl := Option.some.inj hj
      obtain ⟨n1, cl, h1, h2, h3, h4, h5⟩ := H.2.2.1 _ (own_mem ha)
      refine ⟨n1, _, h1.same W, ?_, fun z hz => ?_, fun q => (h4 q).wr W, h5⟩
      · show (cl.setSlot q v).slots.toList = vs.set q v
        rw [show (cl.setSlot q v).slots = cl.slots.setIfInBounds q v from rfl, Array.toList_setIfInBounds, show cl.slots.toList = vs from h2]
      · rcases List.mem_or_eq_of_mem_set hz with hz | rfl
        · exact h3 z hz
        · exact hv
    · rw [if_neg ij] at hj
      obtain ⟨n1, cl, h1, h2, h3, h4, h5⟩ := H.2.2.1 _ (own_mem hj)
      exact ⟨n1, cl, h1.other W (H.neAA hj ha (Ne.symm ij)), h2, h3, fun q => (h4 q).wr W, h5⟩
  · rw [own_set_map (f := fun z => z.1) (x' := (a, ty, ad, vs.set q v)) ha rfl]; exact H.2.2.2
theorem own_le {a b : Nat} (h : Nat.ble a b = true) : a ≤ b := Nat.le_of_ble_eq_true h
theorem own_idx {j : Int32} {q : Nat} (hj : j.toInt = (q : Int)) : j.toNatClampNeg = q := by simp only [Int32.toNatClampNeg, hj]; rfl
theorem own_in {j : Int32} {q N : Nat} (hj : j.toInt = (q : Int)) (hq : q < N) : ¬ (j < 0 ∨ N ≤ j.toNatClampNeg) := by
  rw [own_idx hj, Int32.lt_iff_toInt_lt, hj, show (0 : Int32).toInt = 0 from rfl]; omega
theorem own_len {N : Int32} {q : Nat} (hN : N.toInt = (q : Int)) : q.toInt32 = N := by
  have := Int32.toInt_lt N
  exact Int32.toInt_inj.mp ((len_toInt (by omega)).trans hN.symm)
/-! ## steps -/
theorem own_zw {vm : Vm} (hZ : Z.Warmed39 s.vm) {q : Nat} (hS : s.Since vm q) : Z.Warmed39 (s.setVm vm).vm := State.Warmed39.trans (t := s) hZ hS.1
theorem own_pure (K : own_Cx p s m meth c Z own nm bytes maxL ret)
    (f : ∀ {T : State} {L : List Loc} {vm : Vm}, Stand p l e R (s.setVm vm) m args below meth c T L k n → Z.Warmed39 (s.setVm vm).vm → (s.setVm vm).vm.findClass own = some m.cls → T.heap = h → ∀ target, Steps p.tables e below (T.setTop g') target → Steps p.tables e below (T.setTop g) target)
    (hr : own_G w p l e R s m args below meth c Z Q h k n g') : own_G w p l e R s m args below meth c Z Q h k n g := by
  intro T hX
  obtain ⟨T', v, h', k', n', hX', r1, r2, r3, r4, r5⟩ := hr T hX
  obtain ⟨L, vm, X, -, eT, -, hS⟩ := hX
  exact ⟨T', v, h', k', n', hX', r1, r2, r3, r4, fun fs q => f X (own_zw K.2.2.2.2.2.1 hS) (by rw [show (s.setVm vm).vm = vm from rfl, hS.1.alike.findClass]; exact K.2.2.2.2.2.2.1) eT _ (r5 fs q)⟩
theorem own_since {vm : Vm} {q q' : Nat} (hS : s.Since vm q) (hq : q ≤ q') : s.Since vm q' := ⟨hS.1, hS.2.mono hq⟩
theorem own_step {P : Heap → Prop} (K : own_Cx p s m meth c Z own nm bytes maxL ret)
    (f : ∀ {T : State} {L : List Loc} {vm : Vm}, Stand p l e R (s.setVm vm) m args below meth c T L k n → Z.Warmed39 (s.setVm vm).vm → (s.setVm vm).vm.findClass own = some m.cls → T.heap = h → Fr Z.heap.size L →
      ∃ (T' : State) (h' : Heap) (L' : List Loc), Stand p l e R (s.setVm vm) m args below meth c T' L' k' n' ∧ Fr Z.heap.size L' ∧ T'.heap = h' ∧ h.size ≤ h'.size ∧ P h' ∧ ∀ target, Steps p.tables e below (T'.setTop g') target → Steps p.tables e below (T.setTop g) target)
    (hr : ∀ h', P h' → own_G w p l e R s m args below meth c Z Q h' k' n' g') : own_G w p l e R s m args below meth c Z Q h k n g := by
  intro T hX
  obtain ⟨L, vm, X, N, eT, hw, hS⟩ := hX
  obtain ⟨T1, h1, L1, X1, N1, e1, z1, P1, st⟩ := f X (own_zw K.2.2.2.2.2.1 hS) (by rw [show (s.setVm vm).vm = vm from rfl, hS.1.alike.findClass]; exact K.2.2.2.2.2.2.1) eT N
  obtain ⟨T', v, h', k', n', hX', r1, r2, r3, r4, r5⟩ := hr h1 P1 T1 ⟨L1, vm, X1, N1, e1, hw, own_since hS z1⟩
  exact ⟨T', v, h', k', n', hX', r1, r2, r3, r4, fun fs q => st _ (r5 fs q)⟩
theorem own_iload (K : own_Cx p s m meth c Z own nm bytes maxL ret) {kk : Nat} {v : Int32} (hd : own_D bytes pc (.iload kk) 2 pc') (hl : Ls[kk]? = some (.val (.int v))) (hr : own_G w p l e R s m args below meth c Z Q h k n (mkF m pc' Ls (.int v :: st))) : own_G w p l e R s m args below meth c Z Q h k n (mkF m pc Ls (st)) := by
  obtain ⟨hd, rfl⟩ := hd
  exact own_pure K (fun X _ _ _ _ q => XS.iload X.here K.1 rfl (hb K.2.1 hd) hl q) hr
theorem own_iloadN (K : own_Cx p s m meth c Z own nm bytes maxL ret) {kk : Fin 4} {v : Int32} (hd : own_D bytes pc (.iload_n kk) 1 pc') (hl : Ls[kk.val]? = some (.val (.int v))) (hr : own_G w p l e R s m args below meth c Z Q h k n (mkF m pc' Ls (.int v :: st))) : own_G w p l e R s m args below meth c Z Q h k n (mkF m pc Ls (st)) := by
  obtain ⟨hd, rfl⟩ := hd
  exact own_pure K (fun X _ _ _ _ q => XS.iloadN X.here K.1 rfl (hb K.2.1 hd) hl q) hr
theorem own_istore (K : own_Cx p s m meth c Z own nm bytes maxL ret) {kk : Nat} {v : Int32} (hd : own_D bytes pc (.istore kk) 2 pc') (hl : storeLocals Ls kk (.int v) = some Ls') (hr : own_G w p l e R s m args below meth c Z Q h k n (mkF m pc' Ls' (st))) : own_G w p l e R s m args below meth c Z Q h k n (mkF m pc Ls (.int v :: st)) := by
  obtain ⟨hd, rfl⟩ := hd
  exact own_pure K (fun X _ _ _ _ q => XS.istore X.here K.1 rfl (hb K.2.1 hd) rfl hl q) hr
theorem own_istoreN (K : own_Cx p s m meth c Z own nm bytes maxL ret) {kk : Fin 4} {v : Int32} (hd : own_D bytes pc (.istore_n kk) 1 pc') (hl : storeLocals Ls kk.val (.int v) = some Ls') (hr : own_G w p l e R s m args below meth c Z Q h k n (mkF m pc' Ls' (st))) : own_G w p l e R s m args below meth c Z Q h k n (mkF m pc Ls (.int v :: st)) := by
  obtain ⟨hd, rfl⟩ := hd
  exact own_pure K (fun X _ _ _ _ q => XS.istoreN X.here K.1 rfl (hb K.2.1 hd) rfl hl q) hr
theorem own_lload (K : own_Cx p s m meth c Z own nm bytes maxL ret) {kk : Nat} {v : Int64} (hd : own_D bytes pc (.lload kk) 2 pc') (hl : Ls[kk]? = some (.val (.long v))) (hr : own_G w p l e R s m args below meth c Z Q h k n (mkF m pc' Ls (.long v :: st))) : own_G w p l e R s m args below meth c Z Q h k n (mkF m pc Ls (st)) := by
  obtain ⟨hd, rfl⟩ := hd
  exact own_pure K (fun X _ _ _ _ q => XT.lload X.here K.1 rfl (hb K.2.1 hd) hl q) hr
theorem own_lloadN (K : own_Cx p s m meth c Z own nm bytes maxL ret) {kk : Fin 4} {v : Int64} (hd : own_D bytes pc (.lload_n kk) 1 pc') (hl : Ls[kk.val]? = some (.val (.long v))) (hr : own_G w p l e R s m args below meth c Z Q h k n (mkF m pc' Ls (.long v :: st))) : own_G w p l e R s m args below meth c Z Q h k n (mkF m pc Ls (st)) := by
  obtain ⟨hd, rfl⟩ := hd
  exact own_pure K (fun X _ _ _ _ q => XT.lloadN X.here K.1 rfl (hb K.2.1 hd) hl q) hr
theorem own_lstore (K : own_Cx p s m meth c Z own nm bytes maxL ret) {kk : Nat} {v : Int64} (hd : own_D bytes pc (.lstore kk) 2 pc') (hl : storeLocals Ls kk (.long v) = some Ls') (hr : own_G w p l e R s m args below meth c Z Q h k n (mkF m pc' Ls' (st))) : own_G w p l e R s m args below meth c Z Q h k n (mkF m pc Ls (.long v :: st)) := by
  obtain ⟨hd, rfl⟩ := hd
  exact own_pure K (fun X _ _ _ _ q => XT.lstore X.here K.1 rfl (hb K.2.1 hd) rfl hl q) hr
theorem own_lstoreN (K : own_Cx p s m meth c Z own nm bytes maxL ret) {kk : Fin 4} {v : Int64} (hd : own_D bytes pc (.lstore_n kk) 1 pc') (hl : storeLocals Ls kk.val (.long v) = some Ls') (hr : own_G w p l e R s m args below meth c Z Q h k n (mkF m pc' Ls' (st))) : own_G w p l e R s m args below meth c Z Q h k n (mkF m pc Ls (.long v :: st)) := by
  obtain ⟨hd, rfl⟩ := hd
  exact own_pure K (fun X _ _ _ _ q => XT.lstoreN X.here K.1 rfl (hb K.2.1 hd) rfl hl q) hr
theorem own_dload (K : own_Cx p s m meth c Z own nm bytes maxL ret) {kk : Nat} {v : UInt64} (hd : own_D bytes pc (.dload kk) 2 pc') (hl : Ls[kk]? = some (.val (.double v))) (hr : own_G w p l e R s m args below meth c Z Q h k n (mkF m pc' Ls (.double v :: st))) : own_G w p l e R s m args below meth c Z Q h k n (mkF m pc Ls (st)) := by
  obtain ⟨hd, rfl⟩ := hd
  exact own_pure K (fun X _ _ _ _ q => XS.dload X.here K.1 rfl (hb K.2.1 hd) hl q) hr
theorem own_dloadN (K : own_Cx p s m meth c Z own nm bytes maxL ret) {kk : Fin 4} {v : UInt64} (hd : own_D bytes pc (.dload_n kk) 1 pc') (hl : Ls[kk.val]? = some (.val (.double v))) (hr : own_G w p l e R s m args below meth c Z Q h k n (mkF m pc' Ls (.double v :: st))) : own_G w p l e R s m args below meth c Z Q h k n (mkF m pc Ls (st)) := by
  obtain ⟨hd, rfl⟩ := hd
  exact own_pure K (fun X _ _ _ _ q => XS.dloadN X.here K.1 rfl (hb K.2.1 hd) hl q) hr
theorem own_dstore (K : own_Cx p s m meth c Z own nm bytes maxL ret) {kk : Nat} {v : UInt64} (hd : own_D bytes pc (.dstore kk) 2 pc') (hl : storeLocals Ls kk (.double v) = some Ls') (hr : own_G w p l e R s m args below meth c Z Q h k n (mkF m pc' Ls' (st))) : own_G w p l e R s m args below meth c Z Q h k n (mkF m pc Ls (.double v :: st)) := by
  obtain ⟨hd, rfl⟩ := hd
  exact own_pure K (fun X _ _ _ _ q => XS.dstore X.here K.1 rfl (hb K.2.1 hd) rfl hl q) hr
theorem own_dstoreN (K : own_Cx p s m meth c Z own nm bytes maxL ret) {kk : Fin 4} {v : UInt64} (hd : own_D bytes pc (.dstore_n kk) 1 pc') (hl : storeLocals Ls kk.val (.double v) = some Ls') (hr : own_G w p l e R s m args below meth c Z Q h k n (mkF m pc' Ls' (st))) : own_G w p l e R s m args below meth c Z Q h k n (mkF m pc Ls (.double v :: st)) := by
  obtain ⟨hd, rfl⟩ := hd
  exact own_pure K (fun X _ _ _ _ q => XS.dstoreN X.here K.1 rfl (hb K.2.1 hd) rfl hl q) hr
theorem own_aload (K : own_Cx p s m meth c Z own nm bytes maxL ret) {kk : Nat} {v : Value} (hd : own_D bytes pc (.aload kk) 2 pc') (hl : Ls[kk]? = some (.val v)) (hv : v.isRef = true) (hr : own_G w p l e R s m args below meth c Z Q h k n (mkF m pc' Ls (v :: st))) : own_G w p l e R s m args below meth c Z Q h k n (mkF m pc Ls (st)) := by
  obtain ⟨hd, rfl⟩ := hd
  exact own_pure K (fun X _ _ _ _ q => XS.aload X.here K.1 rfl (hb K.2.1 hd) hl hv q) hr
theorem own_aloadN (K : own_Cx p s m meth c Z own nm bytes maxL ret) {kk : Fin 4} {v : Value} (hd : own_D bytes pc (.aload_n kk) 1 pc') (hl : Ls[kk.val]? = some (.val v)) (hv : v.isRef = true) (hr : own_G w p l e R s m args below meth c Z Q h k n (mkF m pc' Ls (v :: st))) : own_G w p l e R s m args below meth c Z Q h k n (mkF m pc Ls (st)) := by
  obtain ⟨hd, rfl⟩ := hd
  exact own_pure K (fun X _ _ _ _ q => XS.aloadN X.here K.1 rfl (hb K.2.1 hd) hl hv q) hr
theorem own_astore (K : own_Cx p s m meth c Z own nm bytes maxL ret) {kk : Nat} {v : Value} (hd : own_D bytes pc (.astore kk) 2 pc') (hv : v.isRef = true) (hl : storeLocals Ls kk v = some Ls') (hr : own_G w p l e R s m args below meth c Z Q h k n (mkF m pc' Ls' (st))) : own_G w p l e R s m args below meth c Z Q h k n (mkF m pc Ls (v :: st)) := by
  obtain ⟨hd, rfl⟩ := hd
  exact own_pure K (fun X _ _ _ _ q => XS.astore X.here K.1 rfl (hb K.2.1 hd) rfl hv hl q) hr
theorem own_astoreN (K : own_Cx p s m meth c Z own nm bytes maxL ret) {kk : Fin 4} {v : Value} (hd : own_D bytes pc (.astore_n kk) 1 pc') (hv : v.isRef = true) (hl : storeLocals Ls kk.val v = some Ls') (hr : own_G w p l e R s m args below meth c Z Q h k n (mkF m pc' Ls' (st))) : own_G w p l e R s m args below meth c Z Q h k n (mkF m pc Ls (v :: st)) := by
  obtain ⟨hd, rfl⟩ := hd
  exact own_pure K (fun X _ _ _ _ q => XS.astoreN X.here K.1 rfl (hb K.2.1 hd) rfl hv hl q) hr
theorem own_iconst (K : own_Cx p s m meth c Z own nm bytes maxL ret) {i : Int} {v : Int32} (hd : own_D bytes pc (.iconst i) 1 pc') (hv : Int32.ofInt i = v) (hr : own_G w p l e R s m args below meth c Z Q h k n (mkF m pc' Ls (.int v :: st))) : own_G w p l e R s m args below meth c Z Q h k n (mkF m pc Ls st) := by
  obtain ⟨hd, rfl⟩ := hd
  subst hv
  exact own_pure K (fun X _ _ _ _ q => XS.iconst X.here K.1 rfl (hb K.2.1 hd) q) hr
theorem own_bipush (K : own_Cx p s m meth c Z own nm bytes maxL ret) {i : Int} {v : Int32} (hd : own_D bytes pc (.bipush i) 2 pc') (hv : (Int8.ofInt i).toInt32 = v) (hr : own_G w p l e R s m args below meth c Z Q h k n (mkF m pc' Ls (.int v :: st))) : own_G w p l e R s m args below meth c Z Q h k n (mkF m pc Ls st) := by
  obtain ⟨hd, rfl⟩ := hd
  subst hv
  exact own_pure K (fun X _ _ _ _ q => XS.bipush X.here K.1 rfl (hb K.2.1 hd) q) hr
theorem own_sipush (K : own_Cx p s m meth c Z own nm bytes maxL ret) {i : Int} {v : Int32} (hd : own_D bytes pc (.sipush i) 3 pc') (hv : (Int16.ofInt i).toInt32 = v) (hr : own_G w p l e R s m args below meth c Z Q h k n (mkF m pc' Ls (.int v :: st))) : own_G w p l e R s m args below meth c Z Q h k n (mkF m pc Ls st) := by
  obtain ⟨hd, rfl⟩ := hd
  subst hv
  exact own_pure K (fun X _ _ _ _ q => XS.sipush X.here K.1 rfl (hb K.2.1 hd) q) hr
theorem own_lconst (K : own_Cx p s m meth c Z own nm bytes maxL ret) {i : Fin 2} {v : Int64} (hd : own_D bytes pc (.lconst i) 1 pc') (hv : Int64.ofNat i = v) (hr : own_G w p l e R s m args below meth c Z Q h k n (mkF m pc' Ls (.long v :: st))) : own_G w p l e R s m args below meth c Z Q h k n (mkF m pc Ls st) := by
  obtain ⟨hd, rfl⟩ := hd
  subst hv
  exact own_pure K (fun X _ _ _ _ q => XT.lconst X.here K.1 rfl (hb K.2.1 hd) q) hr
theorem own_dconst0 (K : own_Cx p s m meth c Z own nm bytes maxL ret) {v : UInt64} (hd : own_D bytes pc (.dconst 0) 1 pc') (hv : FP.dconst0 = v) (hr : own_G w p l e R s m args below meth c Z Q h k n (mkF m pc' Ls (.double v :: st))) : own_G w p l e R s m args below meth c Z Q h k n (mkF m pc Ls st) := by
  obtain ⟨hd, rfl⟩ := hd
  exact own_pure K (fun X _ _ _ _ q => XS.dconst0 X.here K.1 rfl (hb K.2.1 hd) hv q) hr
theorem own_dconst1 (K : own_Cx p s m meth c Z own nm bytes maxL ret) {v : UInt64} (hd : own_D bytes pc (.dconst 1) 1 pc') (hv : FP.dconst1 = v) (hr : own_G w p l e R s m args below meth c Z Q h k n (mkF m pc' Ls (.double v :: st))) : own_G w p l e R s m args below meth c Z Q h k n (mkF m pc Ls st) := by
  obtain ⟨hd, rfl⟩ := hd
  exact own_pure K (fun X _ _ _ _ q => XS.dconst1 X.here K.1 rfl (hb K.2.1 hd) hv q) hr
theorem own_aconstNull (K : own_Cx p s m meth c Z own nm bytes maxL ret)  (hd : own_D bytes pc (.aconst_null) 1 pc') (hr : own_G w p l e R s m args below meth c Z Q h k n (mkF m pc' Ls (.null :: st))) : own_G w p l e R s m args below meth c Z Q h k n (mkF m pc Ls (st)) := by
  obtain ⟨hd, rfl⟩ := hd
  exact own_pure K (fun X _ _ _ _ q => XS.aconstNull X.here K.1 rfl (hb K.2.1 hd)  q) hr
theorem own_iadd (K : own_Cx p s m meth c Z own nm bytes maxL ret) {x y : Int32} (hd : own_D bytes pc (.iadd) 1 pc') (hr : own_G w p l e R s m args below meth c Z Q h k n (mkF m pc' Ls (.int (x + y) :: st))) : own_G w p l e R s m args below meth c Z Q h k n (mkF m pc Ls (.int y :: .int x :: st)) := by
  obtain ⟨hd, rfl⟩ := hd
  exact own_pure K (fun X _ _ _ _ q => XS.iadd X.here K.1 rfl (hb K.2.1 hd) rfl q) hr
theorem own_isub (K : own_Cx p s m meth c Z own nm bytes maxL ret) {x y : Int32} (hd : own_D bytes pc (.isub) 1 pc') (hr : own_G w p l e R s m args below meth c Z Q h k n (mkF m pc' Ls (.int (x - y) :: st))) : own_G w p l e R s m args below meth c Z Q h k n (mkF m pc Ls (.int y :: .int x :: st)) := by
  obtain ⟨hd, rfl⟩ := hd
  exact own_pure K (fun X _ _ _ _ q => XS.isub X.here K.1 rfl (hb K.2.1 hd) rfl q) hr
theorem own_iand (K : own_Cx p s m meth c Z own nm bytes maxL ret) {x y : Int32} (hd : own_D bytes pc (.iand) 1 pc') (hr : own_G w p l e R s m args below meth c Z Q h k n (mkF m pc' Ls (.int (x &&& y) :: st))) : own_G w p l e R s m args below meth c Z Q h k n (mkF m pc Ls (.int y :: .int x :: st)) := by
  obtain ⟨hd, rfl⟩ := hd
  exact own_pure K (fun X _ _ _ _ q => XS.iand X.here K.1 rfl (hb K.2.1 hd) rfl q) hr
theorem own_imul (K : own_Cx p s m meth c Z own nm bytes maxL ret) {x y : Int32} (hd : own_D bytes pc (.imul) 1 pc') (hr : own_G w p l e R s m args below meth c Z Q h k n (mkF m pc' Ls (.int (x * y) :: st))) : own_G w p l e R s m args below meth c Z Q h k n (mkF m pc Ls (.int y :: .int x :: st)) := by
  obtain ⟨hd, rfl⟩ := hd
  exact own_pure K (fun X _ _ _ _ q => XS.imul X.here K.1 rfl (hb K.2.1 hd) rfl q) hr
theorem own_ixor (K : own_Cx p s m meth c Z own nm bytes maxL ret) {x y : Int32} (hd : own_D bytes pc (.ixor) 1 pc') (hr : own_G w p l e R s m args below meth c Z Q h k n (mkF m pc' Ls (.int (x ^^^ y) :: st))) : own_G w p l e R s m args below meth c Z Q h k n (mkF m pc Ls (.int y :: .int x :: st)) := by
  obtain ⟨hd, rfl⟩ := hd
  exact own_pure K (fun X _ _ _ _ q => XT.ixor X.here K.1 rfl (hb K.2.1 hd) rfl q) hr
theorem own_ior (K : own_Cx p s m meth c Z own nm bytes maxL ret) {x y : Int32} (hd : own_D bytes pc (.ior) 1 pc') (hr : own_G w p l e R s m args below meth c Z Q h k n (mkF m pc' Ls (.int (x ||| y) :: st))) : own_G w p l e R s m args below meth c Z Q h k n (mkF m pc Ls (.int y :: .int x :: st)) := by
  obtain ⟨hd, rfl⟩ := hd
  exact own_pure K (fun X _ _ _ _ q => XT.ior X.here K.1 rfl (hb K.2.1 hd) rfl q) hr
theorem own_ishl (K : own_Cx p s m meth c Z own nm bytes maxL ret) {x y : Int32} (hd : own_D bytes pc (.ishl) 1 pc') (hr : own_G w p l e R s m args below meth c Z Q h k n (mkF m pc' Ls (.int (x <<< (y &&& 31)) :: st))) : own_G w p l e R s m args below meth c Z Q h k n (mkF m pc Ls (.int y :: .int x :: st)) := by
  obtain ⟨hd, rfl⟩ := hd
  exact own_pure K (fun X _ _ _ _ q => XT.ishl X.here K.1 rfl (hb K.2.1 hd) rfl q) hr
theorem own_ishr (K : own_Cx p s m meth c Z own nm bytes maxL ret) {x y : Int32} (hd : own_D bytes pc (.ishr) 1 pc') (hr : own_G w p l e R s m args below meth c Z Q h k n (mkF m pc' Ls (.int (x >>> (y &&& 31)) :: st))) : own_G w p l e R s m args below meth c Z Q h k n (mkF m pc Ls (.int y :: .int x :: st)) := by
  obtain ⟨hd, rfl⟩ := hd
  exact own_pure K (fun X _ _ _ _ q => XT.ishr X.here K.1 rfl (hb K.2.1 hd) rfl q) hr
theorem own_iushr (K : own_Cx p s m meth c Z own nm bytes maxL ret) {x y : Int32} (hd : own_D bytes pc (.iushr) 1 pc') (hr : own_G w p l e R s m args below meth c Z Q h k n (mkF m pc' Ls (.int (XT.ushr x y) :: st))) : own_G w p l e R s m args below meth c Z Q h k n (mkF m pc Ls (.int y :: .int x :: st)) := by
  obtain ⟨hd, rfl⟩ := hd
  exact own_pure K (fun X _ _ _ _ q => XT.iushr X.here K.1 rfl (hb K.2.1 hd) rfl q) hr
theorem own_ladd (K : own_Cx p s m meth c Z own nm bytes maxL ret) {x y : Int64} (hd : own_D bytes pc (.ladd) 1 pc') (hr : own_G w p l e R s m args below meth c Z Q h k n (mkF m pc' Ls (.long (x + y) :: st))) : own_G w p l e R s m args below meth c Z Q h k n (mkF m pc Ls (.long y :: .long x :: st)) := by
  obtain ⟨hd, rfl⟩ := hd
  exact own_pure K (fun X _ _ _ _ q => XT.ladd X.here K.1 rfl (hb K.2.1 hd) rfl q) hr
theorem own_lsub (K : own_Cx p s m meth c Z own nm bytes maxL ret) {x y : Int64} (hd : own_D bytes pc (.lsub) 1 pc') (hr : own_G w p l e R s m args below meth c Z Q h k n (mkF m pc' Ls (.long (x - y) :: st))) : own_G w p l e R s m args below meth c Z Q h k n (mkF m pc Ls (.long y :: .long x :: st)) := by
  obtain ⟨hd, rfl⟩ := hd
  exact own_pure K (fun X _ _ _ _ q => XT.lsub X.here K.1 rfl (hb K.2.1 hd) rfl q) hr
theorem own_lmul (K : own_Cx p s m meth c Z own nm bytes maxL ret) {x y : Int64} (hd : own_D bytes pc (.lmul) 1 pc') (hr : own_G w p l e R s m args below meth c Z Q h k n (mkF m pc' Ls (.long (x * y) :: st))) : own_G w p l e R s m args below meth c Z Q h k n (mkF m pc Ls (.long y :: .long x :: st)) := by
  obtain ⟨hd, rfl⟩ := hd
  exact own_pure K (fun X _ _ _ _ q => XT.lmul X.here K.1 rfl (hb K.2.1 hd) rfl q) hr
theorem own_land (K : own_Cx p s m meth c Z own nm bytes maxL ret) {x y : Int64} (hd : own_D bytes pc (.land) 1 pc') (hr : own_G w p l e R s m args below meth c Z Q h k n (mkF m pc' Ls (.long (x &&& y) :: st))) : own_G w p l e R s m args below meth c Z Q h k n (mkF m pc Ls (.long y :: .long x :: st)) := by
  obtain ⟨hd, rfl⟩ := hd
  exact own_pure K (fun X _ _ _ _ q => XT.land X.here K.1 rfl (hb K.2.1 hd) rfl q) hr
theorem own_lor (K : own_Cx p s m meth c Z own nm bytes maxL ret) {x y : Int64} (hd : own_D bytes pc (.lor) 1 pc') (hr : own_G w p l e R s m args below meth c Z Q h k n (mkF m pc' Ls (.long (x ||| y) :: st))) : own_G w p l e R s m args below meth c Z Q h k n (mkF m pc Ls (.long y :: .long x :: st)) := by
  obtain ⟨hd, rfl⟩ := hd
  exact own_pure K (fun X _ _ _ _ q => XT.lor X.here K.1 rfl (hb K.2.1 hd) rfl q) hr
theorem own_lxor (K : own_Cx p s m meth c Z own nm bytes maxL ret) {x y : Int64} (hd : own_D bytes pc (.lxor) 1 pc') (hr : own_G w p l e R s m args below meth c Z Q h k n (mkF m pc' Ls (.long (x ^^^ y) :: st))) : own_G w p l e R s m args below meth c Z Q h k n (mkF m pc Ls (.long y :: .long x :: st)) := by
  obtain ⟨hd, rfl⟩ := hd
  exact own_pure K (fun X _ _ _ _ q => XT.lxor X.here K.1 rfl (hb K.2.1 hd) rfl q) hr
theorem own_lshl (K : own_Cx p s m meth c Z own nm bytes maxL ret) {x : Int64} {y : Int32} (hd : own_D bytes pc (.lshl) 1 pc') (hr : own_G w p l e R s m args below meth c Z Q h k n (mkF m pc' Ls (.long (x <<< (y.toInt64 &&& 63)) :: st))) : own_G w p l e R s m args below meth c Z Q h k n (mkF m pc Ls (.int y :: .long x :: st)) := by
  obtain ⟨hd, rfl⟩ := hd
  exact own_pure K (fun X _ _ _ _ q => XT.lshl X.here K.1 rfl (hb K.2.1 hd) rfl q) hr
theorem own_lshr (K : own_Cx p s m meth c Z own nm bytes maxL ret) {x : Int64} {y : Int32} (hd : own_D bytes pc (.lshr) 1 pc') (hr : own_G w p l e R s m args below meth c Z Q h k n (mkF m pc' Ls (.long (x >>> (y.toInt64 &&& 63)) :: st))) : own_G w p l e R s m args below meth c Z Q h k n (mkF m pc Ls (.int y :: .long x :: st)) := by
  obtain ⟨hd, rfl⟩ := hd
  exact own_pure K (fun X _ _ _ _ q => XT.lshr X.here K.1 rfl (hb K.2.1 hd) rfl q) hr
theorem own_lushr (K : own_Cx p s m meth c Z own nm bytes maxL ret) {x : Int64} {y : Int32} (hd : own_D bytes pc (.lushr) 1 pc') (hr : own_G w p l e R s m args below meth c Z Q h k n (mkF m pc' Ls (.long (XT.ushrL x y) :: st))) : own_G w p l e R s m args below meth c Z Q h k n (mkF m pc Ls (.int y :: .long x :: st)) := by
  obtain ⟨hd, rfl⟩ := hd
  exact own_pure K (fun X _ _ _ _ q => XT.lushr X.here K.1 rfl (hb K.2.1 hd) rfl q) hr
theorem own_lcmp (K : own_Cx p s m meth c Z own nm bytes maxL ret) {x y : Int64} (hd : own_D bytes pc (.lcmp) 1 pc') (hr : own_G w p l e R s m args below meth c Z Q h k n (mkF m pc' Ls (.int (XT.cmpL x y) :: st))) : own_G w p l e R s m args below meth c Z Q h k n (mkF m pc Ls (.long y :: .long x :: st)) := by
  obtain ⟨hd, rfl⟩ := hd
  exact own_pure K (fun X _ _ _ _ q => XT.lcmp X.here K.1 rfl (hb K.2.1 hd) rfl q) hr
theorem own_idiv (K : own_Cx p s m meth c Z own nm bytes maxL ret) {x y : Int32} (hd : own_D bytes pc (.idiv) 1 pc') (hy : y ≠ 0) (hr : own_G w p l e R s m args below meth c Z Q h k n (mkF m pc' Ls (.int (x / y) :: st))) : own_G w p l e R s m args below meth c Z Q h k n (mkF m pc Ls (.int y :: .int x :: st)) := by
  obtain ⟨hd, rfl⟩ := hd
  exact own_pure K (fun X _ _ _ _ q => XS.idiv X.here K.1 rfl (hb K.2.1 hd) rfl hy q) hr
theorem own_ldiv (K : own_Cx p s m meth c Z own nm bytes maxL ret) {x y : Int64} (hd : own_D bytes pc (.ldiv) 1 pc') (hy : y ≠ 0) (hr : own_G w p l e R s m args below meth c Z Q h k n (mkF m pc' Ls (.long (x / y) :: st))) : own_G w p l e R s m args below meth c Z Q h k n (mkF m pc Ls (.long y :: .long x :: st)) := by
  obtain ⟨hd, rfl⟩ := hd
  exact own_pure K (fun X _ _ _ _ q => XT.ldiv X.here K.1 rfl (hb K.2.1 hd) rfl hy q) hr
theorem own_irem (K : own_Cx p s m meth c Z own nm bytes maxL ret) {x y : Int32} (hd : own_D bytes pc .irem 1 pc') (hy : y ≠ 0) (hr : own_G w p l e R s m args below meth c Z Q h k n (mkF m pc' Ls (.int (x % y) :: st))) : own_G w p l e R s m args below meth c Z Q h k n (mkF m pc Ls (.int y :: .int x :: st)) := by
  obtain ⟨hd, rfl⟩ := hd
  exact own_pure K (fun X _ _ _ _ q => iremM X K.1 rfl (hb K.2.1 hd) rfl hy q) hr
theorem own_ineg (K : own_Cx p s m meth c Z own nm bytes maxL ret) {x : Int32} (hd : own_D bytes pc (.ineg) 1 pc') (hr : own_G w p l e R s m args below meth c Z Q h k n (mkF m pc' Ls (.int (-x) :: st))) : own_G w p l e R s m args below meth c Z Q h k n (mkF m pc Ls (.int x :: st)) := by
  obtain ⟨hd, rfl⟩ := hd
  exact own_pure K (fun X _ _ _ _ q => XS.ineg X.here K.1 rfl (hb K.2.1 hd) rfl q) hr
theorem own_lneg (K : own_Cx p s m meth c Z own nm bytes maxL ret) {x : Int64} (hd : own_D bytes pc (.lneg) 1 pc') (hr : own_G w p l e R s m args below meth c Z Q h k n (mkF m pc' Ls (.long (-x) :: st))) : own_G w p l e R s m args below meth c Z Q h k n (mkF m pc Ls (.long x :: st)) := by
  obtain ⟨hd, rfl⟩ := hd
  exact own_pure K (fun X _ _ _ _ q => XT.lneg X.here K.1 rfl (hb K.2.1 hd) rfl q) hr
theorem own_i2l (K : own_Cx p s m meth c Z own nm bytes maxL ret) {x : Int32} (hd : own_D bytes pc (.i2l) 1 pc') (hr : own_G w p l e R s m args below meth c Z Q h k n (mkF m pc' Ls (.long (x.toInt64) :: st))) : own_G w p l e R s m args below meth c Z Q h k n (mkF m pc Ls (.int x :: st)) := by
  obtain ⟨hd, rfl⟩ := hd
  exact own_pure K (fun X _ _ _ _ q => XT.i2l X.here K.1 rfl (hb K.2.1 hd) rfl q) hr
theorem own_l2i (K : own_Cx p s m meth c Z own nm bytes maxL ret) {x : Int64} (hd : own_D bytes pc (.l2i) 1 pc') (hr : own_G w p l e R s m args below meth c Z Q h k n (mkF m pc' Ls (.int (x.toInt32) :: st))) : own_G w p l e R s m args below meth c Z Q h k n (mkF m pc Ls (.long x :: st)) := by
  obtain ⟨hd, rfl⟩ := hd
  exact own_pure K (fun X _ _ _ _ q => XT.l2i X.here K.1 rfl (hb K.2.1 hd) rfl q) hr
theorem own_i2b (K : own_Cx p s m meth c Z own nm bytes maxL ret) {x : Int32} (hd : own_D bytes pc (.i2b) 1 pc') (hr : own_G w p l e R s m args below meth c Z Q h k n (mkF m pc' Ls (.int (x.toInt8.toInt32) :: st))) : own_G w p l e R s m args below meth c Z Q h k n (mkF m pc Ls (.int x :: st)) := by
  obtain ⟨hd, rfl⟩ := hd
  exact own_pure K (fun X _ _ _ _ q => XT.i2b X.here K.1 rfl (hb K.2.1 hd) rfl q) hr
theorem own_i2c (K : own_Cx p s m meth c Z own nm bytes maxL ret) {x : Int32} (hd : own_D bytes pc (.i2c) 1 pc') (hr : own_G w p l e R s m args below meth c Z Q h k n (mkF m pc' Ls (.int (x.toUInt32.toUInt16.toUInt32.toInt32) :: st))) : own_G w p l e R s m args below meth c Z Q h k n (mkF m pc Ls (.int x :: st)) := by
  obtain ⟨hd, rfl⟩ := hd
  exact own_pure K (fun X _ _ _ _ q => XT.i2c X.here K.1 rfl (hb K.2.1 hd) rfl q) hr
theorem own_i2s (K : own_Cx p s m meth c Z own nm bytes maxL ret) {x : Int32} (hd : own_D bytes pc (.i2s) 1 pc') (hr : own_G w p l e R s m args below meth c Z Q h k n (mkF m pc' Ls (.int (x.toInt16.toInt32) :: st))) : own_G w p l e R s m args below meth c Z Q h k n (mkF m pc Ls (.int x :: st)) := by
  obtain ⟨hd, rfl⟩ := hd
  exact own_pure K (fun X _ _ _ _ q => XT.i2s X.here K.1 rfl (hb K.2.1 hd) rfl q) hr
theorem own_i2d (K : own_Cx p s m meth c Z own nm bytes maxL ret) {x : Int32} (hd : own_D bytes pc (.i2d) 1 pc') (hr : own_G w p l e R s m args below meth c Z Q h k n (mkF m pc' Ls (.double (FP.i2d x) :: st))) : own_G w p l e R s m args below meth c Z Q h k n (mkF m pc Ls (.int x :: st)) := by
  obtain ⟨hd, rfl⟩ := hd
  exact own_pure K (fun X _ _ _ _ q => XS.i2dS X.here K.1 rfl (hb K.2.1 hd) rfl rfl q) hr
theorem own_l2d (K : own_Cx p s m meth c Z own nm bytes maxL ret) {x : Int64} (hd : own_D bytes pc (.l2d) 1 pc') (hr : own_G w p l e R s m args below meth c Z Q h k n (mkF m pc' Ls (.double (FP.l2d x) :: st))) : own_G w p l e R s m args below meth c Z Q h k n (mkF m pc Ls (.long x :: st)) := by
  obtain ⟨hd, rfl⟩ := hd
  exact own_pure K (fun X _ _ _ _ q => XS.l2dS X.here K.1 rfl (hb K.2.1 hd) rfl rfl q) hr
theorem own_dneg (K : own_Cx p s m meth c Z own nm bytes maxL ret) {x : UInt64} (hd : own_D bytes pc (.dneg) 1 pc') (hr : own_G w p l e R s m args below meth c Z Q h k n (mkF m pc' Ls (.double (FP.dneg x) :: st))) : own_G w p l e R s m args below meth c Z Q h k n (mkF m pc Ls (.double x :: st)) := by
  obtain ⟨hd, rfl⟩ := hd
  exact own_pure K (fun X _ _ _ _ q => XS.dnegS X.here K.1 rfl (hb K.2.1 hd) rfl rfl q) hr
theorem own_dcmp (K : own_Cx p s m meth c Z own nm bytes maxL ret) {oo : CmpOp} {x y : UInt64} (hd : own_D bytes pc (.dcmp oo) 1 pc') (hr : own_G w p l e R s m args below meth c Z Q h k n (mkF m pc' Ls (.int (cmpValue (FP.dcmp x y) oo) :: st))) : own_G w p l e R s m args below meth c Z Q h k n (mkF m pc Ls (.double y :: .double x :: st)) := by
  obtain ⟨hd, rfl⟩ := hd
  exact own_pure K (fun X _ _ _ _ q => XS.dcmpS X.here K.1 rfl (hb K.2.1 hd) rfl rfl q) hr
theorem own_dadd (K : own_Cx p s m meth c Z own nm bytes maxL ret) {x y : UInt64} (hd : own_D bytes pc (.dadd) 1 pc') (hn : Jvm.Free.Fl.NoNaN64 (FP.dadd x y)) (hr : own_G w p l e R s m args below meth c Z Q h k n (mkF m pc' Ls (.double (FP.dadd x y) :: st))) : own_G w p l e R s m args below meth c Z Q h k n (mkF m pc Ls (.double y :: .double x :: st)) := by
  obtain ⟨hd, rfl⟩ := hd
  exact own_pure K (fun X _ _ _ _ q => XS.daddS X.here K.1 rfl (hb K.2.1 hd) rfl hn rfl q) hr
theorem own_dsub (K : own_Cx p s m meth c Z own nm bytes maxL ret) {x y : UInt64} (hd : own_D bytes pc (.dsub) 1 pc') (hn : Jvm.Free.Fl.NoNaN64 (FP.dsub x y)) (hr : own_G w p l e R s m args below meth c Z Q h k n (mkF m pc' Ls (.double (FP.dsub x y) :: st))) : own_G w p l e R s m args below meth c Z Q h k n (mkF m pc Ls (.double y :: .double x :: st)) := by
  obtain ⟨hd, rfl⟩ := hd
  exact own_pure K (fun X _ _ _ _ q => XS.dsubS X.here K.1 rfl (hb K.2.1 hd) rfl hn rfl q) hr
theorem own_dmul (K : own_Cx p s m meth c Z own nm bytes maxL ret) {x y : UInt64} (hd : own_D bytes pc (.dmul) 1 pc') (hn : Jvm.Free.Fl.NoNaN64 (FP.dmul x y)) (hr : own_G w p l e R s m args below meth c Z Q h k n (mkF m pc' Ls (.double (FP.dmul x y) :: st))) : own_G w p l e R s m args below meth c Z Q h k n (mkF m pc Ls (.double y :: .double x :: st)) := by
  obtain ⟨hd, rfl⟩ := hd
  exact own_pure K (fun X _ _ _ _ q => XS.dmulS X.here K.1 rfl (hb K.2.1 hd) rfl hn rfl q) hr
theorem own_ddiv (K : own_Cx p s m meth c Z own nm bytes maxL ret) {x y : UInt64} (hd : own_D bytes pc (.ddiv) 1 pc') (hn : Jvm.Free.Fl.NoNaN64 (FP.ddiv x y)) (hr : own_G w p l e R s m args below meth c Z Q h k n (mkF m pc' Ls (.double (FP.ddiv x y) :: st))) : own_G w p l e R s m args below meth c Z Q h k n (mkF m pc Ls (.double y :: .double x :: st)) := by
  obtain ⟨hd, rfl⟩ := hd
  exact own_pure K (fun X _ _ _ _ q => XS.ddivS X.here K.1 rfl (hb K.2.1 hd) rfl hn rfl q) hr
theorem own_dup (K : own_Cx p s m meth c Z own nm bytes maxL ret) {x : Value} (hd : own_D bytes pc (.dup) 1 pc') (hc : x.category = 1) (hr : own_G w p l e R s m args below meth c Z Q h k n (mkF m pc' Ls (x :: x :: st))) : own_G w p l e R s m args below meth c Z Q h k n (mkF m pc Ls (x :: st)) := by
  obtain ⟨hd, rfl⟩ := hd
  exact own_pure K (fun X _ _ _ _ q => XS.dup X.here K.1 rfl (hb K.2.1 hd) rfl hc q) hr
theorem own_pop (K : own_Cx p s m meth c Z own nm bytes maxL ret) {x : Value} (hd : own_D bytes pc (.pop) 1 pc') (hc : x.category = 1) (hr : own_G w p l e R s m args below meth c Z Q h k n (mkF m pc' Ls (st))) : own_G w p l e R s m args below meth c Z Q h k n (mkF m pc Ls (x :: st)) := by
  obtain ⟨hd, rfl⟩ := hd
  exact own_pure K (fun X _ _ _ _ q => XT.pop X.here K.1 rfl (hb K.2.1 hd) rfl hc q) hr
theorem own_dupX1 (K : own_Cx p s m meth c Z own nm bytes maxL ret) {x y : Value} (hd : own_D bytes pc (.dup_x1) 1 pc') (hc : x.category = 1) (hc' : y.category = 1) (hr : own_G w p l e R s m args below meth c Z Q h k n (mkF m pc' Ls (x :: y :: x :: st))) : own_G w p l e R s m args below meth c Z Q h k n (mkF m pc Ls (x :: y :: st)) := by
  obtain ⟨hd, rfl⟩ := hd
  exact own_pure K (fun X _ _ _ _ q => XT.dupX1 X.here K.1 rfl (hb K.2.1 hd) rfl hc hc' q) hr
theorem own_dup2 (K : own_Cx p s m meth c Z own nm bytes maxL ret) {x y : Value} (hd : own_D bytes pc (.dup2) 1 pc') (hc : x.category = 1) (hc' : y.category = 1) (hr : own_G w p l e R s m args below meth c Z Q h k n (mkF m pc' Ls (x :: y :: x :: y :: st))) : own_G w p l e R s m args below meth c Z Q h k n (mkF m pc Ls (x :: y :: st)) := by
  obtain ⟨hd, rfl⟩ := hd
  exact own_pure K (fun X _ _ _ _ q => XT.dup2 X.here K.1 rfl (hb K.2.1 hd) rfl hc hc' q) hr
theorem own_iinc (K : own_Cx p s m meth c Z own nm bytes maxL ret) {kk : Nat} {cst : Int} {x y : Int32} (hd : own_D bytes pc (.iinc kk cst) 3 pc') (hl : Ls[kk]? = some (.val (.int x))) (hy : x + Int32.ofInt cst = y) (hl' : storeLocals Ls kk (.int y) = some Ls') (hr : own_G w p l e R s m args below meth c Z Q h k n (mkF m pc' Ls' st)) : own_G w p l e R s m args below meth c Z Q h k n (mkF m pc Ls st) := by
  obtain ⟨hd, rfl⟩ := hd
  subst hy
  exact own_pure K (fun X _ _ _ _ q => XS.iinc X.here K.1 rfl (hb K.2.1 hd) hl hl' q) hr
theorem own_goto (K : own_Cx p s m meth c Z own nm bytes maxL ret) {off : Int} {pcF : Nat} (hd : own_B bytes pc (.goto off) off pcF pcT) (hr : own_G w p l e R s m args below meth c Z Q h k n (mkF m pcT Ls st)) : own_G w p l e R s m args below meth c Z Q h k n (mkF m pc Ls st) := by
  obtain ⟨hd, -, h1, h2⟩ := hd
  exact own_pure K (fun X _ _ _ _ q => XS.goto X.here K.1 rfl rfl (hb K.2.1 hd) h1 h2 q) hr
theorem own_ldcI (K : own_Cx p s m meth c Z own nm bytes maxL ret) {i : Nat} {v : Int32} (hd : own_D bytes pc (.ldc i) 2 pc') (wc : (Cond.constant own i v).before a0 Z = true) (hr : own_G w p l e R s m args below meth c Z Q h k n (mkF m pc' Ls (.int v :: st))) : own_G w p l e R s m args below meth c Z Q h k n (mkF m pc Ls st) := by
  obtain ⟨hd, rfl⟩ := hd
  exact own_pure K (fun X hZ ho _ _ q => X.ldcI K.1 ho (mvT hZ wc) rfl (hb K.2.1 hd) q) hr
theorem own_ldc2J (K : own_Cx p s m meth c Z own nm bytes maxL ret) {i : Nat} {v : Int64} (hd : own_D bytes pc (.ldc2_w i) 3 pc') (wc : (Cond.constantLong own i v).before a0 Z = true) (hr : own_G w p l e R s m args below meth c Z Q h k n (mkF m pc' Ls (.long v :: st))) : own_G w p l e R s m args below meth c Z Q h k n (mkF m pc Ls st) := by
  obtain ⟨hd, rfl⟩ := hd
  exact own_pure K (fun X hZ ho _ _ q => X.ldc2J K.1 ho (mvT hZ wc) rfl (hb K.2.1 hd) q) hr
theorem own_ldc2D (K : own_Cx p s m meth c Z own nm bytes maxL ret) {i : Nat} {v : UInt64} (hd : own_D bytes pc (.ldc2_w i) 3 pc') (wc : (Cond.constantDouble own i v).before a0 Z = true) (hr : own_G w p l e R s m args below meth c Z Q h k n (mkF m pc' Ls (.double v :: st))) : own_G w p l e R s m args below meth c Z Q h k n (mkF m pc Ls st) := by
  obtain ⟨hd, rfl⟩ := hd
  exact own_pure K (fun X hZ ho _ _ q => X.ldc2DoubleC K.1 ho (mvT hZ wc) (g := mkF m pc Ls st) rfl (hb K.2.1 hd) _ q) hr
theorem own_i0_eq (x : Int32) : (ifCond.holds .eq x = true) = (x = 0) := by simp [ifCond.holds, Int32.lt_iff_toInt_lt, Int32.le_iff_toInt_le]
theorem own_ii_eq (x y : Int32) : (if_icmp.holds .eq x y = true) = (x = y) := by simp [if_icmp.holds, Int32.lt_iff_toInt_lt, Int32.le_iff_toInt_le]
theorem own_ifeq (K : own_Cx p s m meth c Z own nm bytes maxL ret) {off : Int} {pcF : Nat} {x : Int32} (hd : own_B bytes pc (.ifCond .eq off) off pcF pcT) (hT : (x = 0) → own_G w p l e R s m args below meth c Z Q h k n (mkF m pcT Ls st)) (hF : ¬ (x = 0) → own_G w p l e R s m args below meth c Z Q h k n (mkF m pcF Ls st)) : own_G w p l e R s m args below meth c Z Q h k n (mkF m pc Ls (.int x :: st)) := by
  obtain ⟨hd, rfl, h1, h2⟩ := hd
  by_cases q : ifCond.holds .eq x = true
  · exact own_pure K (fun X _ _ _ _ r => XS.ifYes X.here K.1 rfl rfl (hb K.2.1 hd) rfl q h1 h2 r) (hT ((own_i0_eq x).mp q))
  · exact own_pure K (fun X _ _ _ _ r => XS.ifNo X.here K.1 rfl (hb K.2.1 hd) rfl (Bool.eq_false_iff.mpr q) r) (hF fun z => q ((own_i0_eq x).mpr z))
theorem own_icmpeq (K : own_Cx p s m meth c Z own nm bytes maxL ret) {off : Int} {pcF : Nat} {x y : Int32} (hd : own_B bytes pc (.if_icmp .eq off) off pcF pcT) (hT : (x = y) → own_G w p l e R s m args below meth c Z Q h k n (mkF m pcT Ls st)) (hF : ¬ (x = y) → own_G w p l e R s m args below meth c Z Q h k n (mkF m pcF Ls st)) : own_G w p l e R s m args below meth c Z Q h k n (mkF m pc Ls (.int y :: .int x :: st)) := by
  obtain ⟨hd, rfl, h1, h2⟩ := hd
  by_cases q : if_icmp.holds .eq x y = true
  · exact own_pure K (fun X _ _ _ _ r => XS.icmpYes X.here K.1 rfl rfl (hb K.2.1 hd) rfl q h1 h2 r) (hT ((own_ii_eq x y).mp q))
  · exact own_pure K (fun X _ _ _ _ r => XS.icmpNo X.here K.1 rfl (hb K.2.1 hd) rfl (Bool.eq_false_iff.mpr q) r) (hF fun z => q ((own_ii_eq x y).mpr z))
theorem own_i0_ne (x : Int32) : (ifCond.holds .ne x = true) = (x ≠ 0) := by simp [ifCond.holds, Int32.lt_iff_toInt_lt, Int32.le_iff_toInt_le]
theorem own_ii_ne (x y : Int32) : (if_icmp.holds .ne x y = true) = (x ≠ y) := by simp [if_icmp.holds, Int32.lt_iff_toInt_lt, Int32.le_iff_toInt_le]
theorem own_ifne (K : own_Cx p s m meth c Z own nm bytes maxL ret) {off : Int} {pcF : Nat} {x : Int32} (hd : own_B bytes pc (.ifCond .ne off) off pcF pcT) (hT : (x ≠ 0) → own_G w p l e R s m args below meth c Z Q h k n (mkF m pcT Ls st)) (hF : ¬ (x ≠ 0) → own_G w p l e R s m args below meth c Z Q h k n (mkF m pcF Ls st)) : own_G w p l e R s m args below meth c Z Q h k n (mkF m pc Ls (.int x :: st)) := by
  obtain ⟨hd, rfl, h1, h2⟩ := hd
  by_cases q : ifCond.holds .ne x = true
  · exact own_pure K (fun X _ _ _ _ r => XS.ifYes X.here K.1 rfl rfl (hb K.2.1 hd) rfl q h1 h2 r) (hT ((own_i0_ne x).mp q))
  · exact own_pure K (fun X _ _ _ _ r => XS.ifNo X.here K.1 rfl (hb K.2.1 hd) rfl (Bool.eq_false_iff.mpr q) r) (hF fun z => q ((own_i0_ne x).mpr z))
theorem own_icmpne (K : own_Cx p s m meth c Z own nm bytes maxL ret) {off : Int} {pcF : Nat} {x y : Int32} (hd : own_B bytes pc (.if_icmp .ne off) off pcF pcT) (hT : (x ≠ y) → own_G w p l e R s m args below meth c Z Q h k n (mkF m pcT Ls st)) (hF : ¬ (x ≠ y) → own_G w p l e R s m args below meth c Z Q h k n (mkF m pcF Ls st)) : own_G w p l e R s m args below meth c Z Q h k n (mkF m pc Ls (.int y :: .int x :: st)) := by
  obtain ⟨hd, rfl, h1, h2⟩ := hd
  by_cases q : if_icmp.holds .ne x y = true
  · exact own_pure K (fun X _ _ _ _ r => XS.icmpYes X.here K.1 rfl rfl (hb K.2.1 hd) rfl q h1 h2 r) (hT ((own_ii_ne x y).mp q))
  · exact own_pure K (fun X _ _ _ _ r => XS.icmpNo X.here K.1 rfl (hb K.2.1 hd) rfl (Bool.eq_false_iff.mpr q) r) (hF fun z => q ((own_ii_ne x y).mpr z))
theorem own_i0_lt (x : Int32) : (ifCond.holds .lt x = true) = (x.toInt < 0) := by simp [ifCond.holds, Int32.lt_iff_toInt_lt, Int32.le_iff_toInt_le]
theorem own_ii_lt (x y : Int32) : (if_icmp.holds .lt x y = true) = (x.toInt < y.toInt) := by simp [if_icmp.holds, Int32.lt_iff_toInt_lt, Int32.le_iff_toInt_le]
theorem own_iflt (K : own_Cx p s m meth c Z own nm bytes maxL ret) {off : Int} {pcF : Nat} {x : Int32} (hd : own_B bytes pc (.ifCond .lt off) off pcF pcT) (hT : (x.toInt < 0) → own_G w p l e R s m args below meth c Z Q h k n (mkF m pcT Ls st)) (hF : ¬ (x.toInt < 0) → own_G w p l e R s m args below meth c Z Q h k n (mkF m pcF Ls st)) : own_G w p l e R s m args below meth c Z Q h k n (mkF m pc Ls (.int x :: st)) := by
  obtain ⟨hd, rfl, h1, h2⟩ := hd
  by_cases q : ifCond.holds .lt x = true
  · exact own_pure K (fun X _ _ _ _ r => XS.ifYes X.here K.1 rfl rfl (hb K.2.1 hd) rfl q h1 h2 r) (hT ((own_i0_lt x).mp q))
  · exact own_pure K (fun X _ _ _ _ r => XS.ifNo X.here K.1 rfl (hb K.2.1 hd) rfl (Bool.eq_false_iff.mpr q) r) (hF fun z => q ((own_i0_lt x).mpr z))
theorem own_icmplt (K : own_Cx p s m meth c Z own nm bytes maxL ret) {off : Int} {pcF : Nat} {x y : Int32} (hd : own_B bytes pc (.if_icmp .lt off) off pcF pcT) (hT : (x.toInt < y.toInt) → own_G w p l e R s m args below meth c Z Q h k n (mkF m pcT Ls st)) (hF : ¬ (x.toInt < y.toInt) → own_G w p l e R s m args below meth c Z Q h k n (mkF m pcF Ls st)) : own_G w p l e R s m args below meth c Z Q h k n (mkF m pc Ls (.int y :: .int x :: st)) := by
  obtain ⟨hd, rfl, h1, h2⟩ := hd
  by_cases q : if_icmp.holds .lt x y = true
  · exact own_pure K (fun X _ _ _ _ r => XS.icmpYes X.here K.1 rfl rfl (hb K.2.1 hd) rfl q h1 h2 r) (hT ((own_ii_lt x y).mp q))
  · exact own_pure K (fun X _ _ _ _ r => XS.icmpNo X.here K.1 rfl (hb K.2.1 hd) rfl (Bool.eq_false_iff.mpr q) r) (hF fun z => q ((own_ii_lt x y).mpr z))
theorem own_i0_ge (x : Int32) : (ifCond.holds .ge x = true) = (0 ≤ x.toInt) := by simp [ifCond.holds, Int32.lt_iff_toInt_lt, Int32.le_iff_toInt_le]
theorem own_ii_ge (x y : Int32) : (if_icmp.holds .ge x y = true) = (y.toInt ≤ x.toInt) := by simp [if_icmp.holds, Int32.lt_iff_toInt_lt, Int32.le_iff_toInt_le]
theorem own_ifge (K : own_Cx p s m meth c Z own nm bytes maxL ret) {off : Int} {pcF : Nat} {x : Int32} (hd : own_B bytes pc (.ifCond .ge off) off pcF pcT) (hT : (0 ≤ x.toInt) → own_G w p l e R s m args below meth c Z Q h k n (mkF m pcT Ls st)) (hF : ¬ (0 ≤ x.toInt) → own_G w p l e R s m args below meth c Z Q h k n (mkF m pcF Ls st)) : own_G w p l e R s m args below meth c Z Q h k n (mkF m pc Ls (.int x :: st)) := by
  obtain ⟨hd, rfl, h1, h2⟩ := hd
  by_cases q : ifCond.holds .ge x = true
  · exact own_pure K (fun X _ _ _ _ r => XS.ifYes X.here K.1 rfl rfl (hb K.2.1 hd) rfl q h1 h2 r) (hT ((own_i0_ge x).mp q))
  · exact own_pure K (fun X _ _ _ _ r => XS.ifNo X.here K.1 rfl (hb K.2.1 hd) rfl (Bool.eq_false_iff.mpr q) r) (hF fun z => q ((own_i0_ge x).mpr z))
theorem own_icmpge (K : own_Cx p s m meth c Z own nm bytes maxL ret) {off : Int} {pcF : Nat} {x y : Int32} (hd : own_B bytes pc (.if_icmp .ge off) off pcF pcT) (hT : (y.toInt ≤ x.toInt) → own_G w p l e R s m args below meth c Z Q h k n (mkF m pcT Ls st)) (hF : ¬ (y.toInt ≤ x.toInt) → own_G w p l e R s m args below meth c Z Q h k n (mkF m pcF Ls st)) : own_G w p l e R s m args below meth c Z Q h k n (mkF m pc Ls (.int y :: .int x :: st)) := by
  obtain ⟨hd, rfl, h1, h2⟩ := hd
  by_cases q : if_icmp.holds .ge x y = true
  · exact own_pure K (fun X _ _ _ _ r => XS.icmpYes X.here K.1 rfl rfl (hb K.2.1 hd) rfl q h1 h2 r) (hT ((own_ii_ge x y).mp q))
  · exact own_pure K (fun X _ _ _ _ r => XS.icmpNo X.here K.1 rfl (hb K.2.1 hd) rfl (Bool.eq_false_iff.mpr q) r) (hF fun z => q ((own_ii_ge x y).mpr z))
theorem own_i0_gt (x : Int32) : (ifCond.holds .gt x = true) = (0 < x.toInt) := by simp [ifCond.holds, Int32.lt_iff_toInt_lt, Int32.le_iff_toInt_le]
theorem own_ii_gt (x y : Int32) : (if_icmp.holds .gt x y = true) = (y.toInt < x.toInt) := by simp [if_icmp.holds, Int32.lt_iff_toInt_lt, Int32.le_iff_toInt_le]
theorem own_ifgt (K : own_Cx p s m meth c Z own nm bytes maxL ret) {off : Int} {pcF : Nat} {x : Int32} (hd : own_B bytes pc (.ifCond .gt off) off pcF pcT) (hT : (0 < x.toInt) → own_G w p l e R s m args below meth c Z Q h k n (mkF m pcT Ls st)) (hF : ¬ (0 < x.toInt) → own_G w p l e R s m args below meth c Z Q h k n (mkF m pcF Ls st)) : own_G w p l e R s m args below meth c Z Q h k n (mkF m pc Ls (.int x :: st)) := by
  obtain ⟨hd, rfl, h1, h2⟩ := hd
  by_cases q : ifCond.holds .gt x = true
  · exact own_pure K (fun X _ _ _ _ r => XS.ifYes X.here K.1 rfl rfl (hb K.2.1 hd) rfl q h1 h2 r) (hT ((own_i0_gt x).mp q))
  · exact own_pure K (fun X _ _ _ _ r => XS.ifNo X.here K.1 rfl (hb K.2.1 hd) rfl (Bool.eq_false_iff.mpr q) r) (hF fun z => q ((own_i0_gt x).mpr z))
theorem own_icmpgt (K : own_Cx p s m meth c Z own nm bytes maxL ret) {off : Int} {pcF : Nat} {x y : Int32} (hd : own_B bytes pc (.if_icmp .gt off) off pcF pcT) (hT : (y.toInt < x.toInt) → own_G w p l e R s m args below meth c Z Q h k n (mkF m pcT Ls st)) (hF : ¬ (y.toInt < x.toInt) → own_G w p l e R s m args below meth c Z Q h k n (mkF m pcF Ls st)) : own_G w p l e R s m args below meth c Z Q h k n (mkF m pc Ls (.int y :: .int x :: st)) := by
  obtain ⟨hd, rfl, h1, h2⟩ := hd
  by_cases q : if_icmp.holds .gt x y = true
  · exact own_pure K (fun X _ _ _ _ r => XS.icmpYes X.here K.1 rfl rfl (hb K.2.1 hd) rfl q h1 h2 r) (hT ((own_ii_gt x y).mp q))
  · exact own_pure K (fun X _ _ _ _ r => XS.icmpNo X.here K.1 rfl (hb K.2.1 hd) rfl (Bool.eq_false_iff.mpr q) r) (hF fun z => q ((own_ii_gt x y).mpr z))
theorem own_i0_le (x : Int32) : (ifCond.holds .le x = true) = (x.toInt ≤ 0) := by simp [ifCond.holds, Int32.lt_iff_toInt_lt, Int32.le_iff_toInt_le]
theorem own_ii_le (x y : Int32) : (if_icmp.holds .le x y = true) = (x.toInt ≤ y.toInt) := by simp [if_icmp.holds, Int32.lt_iff_toInt_lt, Int32.le_iff_toInt_le]
theorem own_ifle (K : own_Cx p s m meth c Z own nm bytes maxL ret) {off : Int} {pcF : Nat} {x : Int32} (hd : own_B bytes pc (.ifCond .le off) off pcF pcT) (hT : (x.toInt ≤ 0) → own_G w p l e R s m args below meth c Z Q h k n (mkF m pcT Ls st)) (hF : ¬ (x.toInt ≤ 0) → own_G w p l e R s m args below meth c Z Q h k n (mkF m pcF Ls st)) : own_G w p l e R s m args below meth c Z Q h k n (mkF m pc Ls (.int x :: st)) := by
  obtain ⟨hd, rfl, h1, h2⟩ := hd
  by_cases q : ifCond.holds .le x = true
  · exact own_pure K (fun X _ _ _ _ r => XS.ifYes X.here K.1 rfl rfl (hb K.2.1 hd) rfl q h1 h2 r) (hT ((own_i0_le x).mp q))
  · exact own_pure K (fun X _ _ _ _ r => XS.ifNo X.here K.1 rfl (hb K.2.1 hd) rfl (Bool.eq_false_iff.mpr q) r) (hF fun z => q ((own_i0_le x).mpr z))
theorem own_icmple (K : own_Cx p s m meth c Z own nm bytes maxL ret) {off : Int} {pcF : Nat} {x y : Int32} (hd : own_B bytes pc (.if_icmp .le off) off pcF pcT) (hT : (x.toInt ≤ y.toInt) → own_G w p l e R s m args below meth c Z Q h k n (mkF m pcT Ls st)) (hF : ¬ (x.toInt ≤ y.toInt) → own_G w p l e R s m args below meth c Z Q h k n (mkF m pcF Ls st)) : own_G w p l e R s m args below meth c Z Q h k n (mkF m pc Ls (.int y :: .int x :: st)) := by
  obtain ⟨hd, rfl, h1, h2⟩ := hd
  by_cases q : if_icmp.holds .le x y = true
  · exact own_pure K (fun X _ _ _ _ r => XS.icmpYes X.here K.1 rfl rfl (hb K.2.1 hd) rfl q h1 h2 r) (hT ((own_ii_le x y).mp q))
  · exact own_pure K (fun X _ _ _ _ r => XS.icmpNo X.here K.1 rfl (hb K.2.1 hd) rfl (Bool.eq_false_iff.mpr q) r) (hF fun z => q ((own_ii_le x y).mpr z))
theorem own_ifnullN (K : own_Cx p s m meth c Z own nm bytes maxL ret) {off : Int} {pcF : Nat} (hd : own_B bytes pc (.ifnull off) off pcF pcT) (hr : own_G w p l e R s m args below meth c Z Q h k n (mkF m pcT Ls st)) : own_G w p l e R s m args below meth c Z Q h k n (mkF m pc Ls (.null :: st)) := by
  obtain ⟨hd, rfl, h1, h2⟩ := hd
  exact own_pure K (fun X _ _ _ _ r => XS.ifnullYes X.here K.1 rfl rfl (hb K.2.1 hd) rfl h1 h2 r) hr
theorem own_ifnullR (K : own_Cx p s m meth c Z own nm bytes maxL ret) {off : Int} {pcF : Nat} {b : Addr} (hd : own_B bytes pc (.ifnull off) off pcF pcT) (hr : own_G w p l e R s m args below meth c Z Q h k n (mkF m pcF Ls st)) : own_G w p l e R s m args below meth c Z Q h k n (mkF m pc Ls (.ref b :: st)) := by
  obtain ⟨hd, rfl, h1, h2⟩ := hd
  exact own_pure K (fun X _ _ _ _ r => XS.ifnullNo X.here K.1 rfl (hb K.2.1 hd) rfl r) hr
theorem own_ifnonnullN (K : own_Cx p s m meth c Z own nm bytes maxL ret) {off : Int} {pcF : Nat} (hd : own_B bytes pc (.ifnonnull off) off pcF pcT) (hr : own_G w p l e R s m args below meth c Z Q h k n (mkF m pcF Ls st)) : own_G w p l e R s m args below meth c Z Q h k n (mkF m pc Ls (.null :: st)) := by
  obtain ⟨hd, rfl, h1, h2⟩ := hd
  exact own_pure K (fun X _ _ _ _ r => XT.ifnonnullNo X.here K.1 rfl (hb K.2.1 hd) rfl r) hr
theorem own_ifnonnullR (K : own_Cx p s m meth c Z own nm bytes maxL ret) {off : Int} {pcF : Nat} {b : Addr} (hd : own_B bytes pc (.ifnonnull off) off pcF pcT) (hr : own_G w p l e R s m args below meth c Z Q h k n (mkF m pcT Ls st)) : own_G w p l e R s m args below meth c Z Q h k n (mkF m pc Ls (.ref b :: st)) := by
  obtain ⟨hd, rfl, h1, h2⟩ := hd
  exact own_pure K (fun X _ _ _ _ r => XT.ifnonnullYes X.here K.1 rfl rfl (hb K.2.1 hd) rfl h1 h2 r) hr
theorem own_acmpeq (K : own_Cx p s m meth c Z own nm bytes maxL ret) {off : Int} {pcF : Nat} {x y : Value} (hd : own_B bytes pc (.if_acmp .eq off) off pcF pcT) (h1' : x.isRef = true) (h2' : y.isRef = true) (hT : (x = y) → own_G w p l e R s m args below meth c Z Q h k n (mkF m pcT Ls st)) (hF : ¬ (x = y) → own_G w p l e R s m args below meth c Z Q h k n (mkF m pcF Ls st)) : own_G w p l e R s m args below meth c Z Q h k n (mkF m pc Ls (y :: x :: st)) := by
  obtain ⟨hd, rfl, h1, h2⟩ := hd
  by_cases q : x = y
  · exact own_pure K (fun X _ _ _ _ r => XT.acmpYes X.here K.1 rfl rfl (hb K.2.1 hd) rfl h1' h2' (decide_eq_true q) h1 h2 r) (hT q)
  · exact own_pure K (fun X _ _ _ _ r => XT.acmpNo X.here K.1 rfl (hb K.2.1 hd) rfl h1' h2' (decide_eq_false q) r) (hF q)
theorem own_acmpne (K : own_Cx p s m meth c Z own nm bytes maxL ret) {off : Int} {pcF : Nat} {x y : Value} (hd : own_B bytes pc (.if_acmp .ne off) off pcF pcT) (h1' : x.isRef = true) (h2' : y.isRef = true) (hT : (x ≠ y) → own_G w p l e R s m args below meth c Z Q h k n (mkF m pcT Ls st)) (hF : ¬ (x ≠ y) → own_G w p l e R s m args below meth c Z Q h k n (mkF m pcF Ls st)) : own_G w p l e R s m args below meth c Z Q h k n (mkF m pc Ls (y :: x :: st)) := by
  obtain ⟨hd, rfl, h1, h2⟩ := hd
  by_cases q : x ≠ y
  · exact own_pure K (fun X _ _ _ _ r => XT.acmpYes X.here K.1 rfl rfl (hb K.2.1 hd) rfl h1' h2' (decide_eq_true q) h1 h2 r) (hT q)
  · exact own_pure K (fun X _ _ _ _ r => XT.acmpNo X.here K.1 rfl (hb K.2.1 hd) rfl h1' h2' (decide_eq_false q) r) (hF q)
theorem own_getfield (K : own_Cx p s m meth c Z own nm bytes maxL ret) {i j q : Nat} {R0 O f d host C : String} {v : Value} {a : Addr} {fs : List (String × String × String × Value)} (hd : own_D bytes pc (.getfield i) 3 pc') (wl : (Cond.fieldLink own i R0 f d).before a0 Z = true ∨ (Cond.fieldLinkNest own i R0 f d host).before a0 Z = true) (via : Via Z R0 O f d) (H : own_H Z h os as) (ho : os[j]? = some (a, C, fs)) (hf : fs[q]? = some (O, f, d, v)) (hr : own_G w p l e R s m args below meth c Z Q h k n (mkF m pc' Ls (v :: st))) : own_G w p l e R s m args below meth c Z Q h k n (mkF m pc Ls (.ref a :: st)) := by
  obtain ⟨hd, rfl⟩ := hd
  refine own_step K (P := fun h' => h' = h) (fun X hZ hw eT N => ?_) (fun h' e => by subst e; exact hr)
  obtain ⟨T', X', e', st⟩ := getF X K.1 hZ hw wl via eT (H.fld ho hf) (g := mkF m pc Ls (.ref a :: st)) rfl rfl (hb K.2.1 hd)
  exact ⟨T', _, _, X', N, e', Nat.le_refl _, rfl, st⟩
theorem own_putfield (K : own_Cx p s m meth c Z own nm bytes maxL ret) {i j q kk : Nat} {R0 O f d host C : String} {v v0 : Value} {a : Addr} {fs : List (String × String × String × Value)} {ty : FieldType} (hd : own_D bytes pc (.putfield i) 3 pc') (wl : (Cond.fieldLink own i R0 f d).before a0 Z = true ∨ (Cond.fieldLinkNest own i R0 f d host).before a0 Z = true) (via : Via Z R0 O f d) (H : own_H Z h os as) (ho : os[j]? = some (a, C, fs)) (hf : fs[q]? = some (O, f, d, v0))
    (L : (Cond.lays C O f d).before a0 Z = true ∨ ((Cond.laysFinal C O f d).before a0 Z = true ∧ own = O ∧ nm = "<init>")) (wi : (Cond.instantiable C kk).before a0 Z = true) (hty : parseFieldDescriptor d = some ty) (hn : narrow ty v = v) (hfit : fits ty v = true) (hr : ∀ h', own_H Z h' (os.set j (a, C, fs.set q (O, f, d, v))) as → own_G w p l e R s m args below meth c Z Q h' k n (mkF m pc' Ls st)) : own_G w p l e R s m args below meth c Z Q h k n (mkF m pc Ls (v :: .ref a :: st)) := by
  obtain ⟨hd, rfl⟩ := hd
  refine own_step K (P := fun h' => own_H Z h' (os.set j (a, C, fs.set q (O, f, d, v))) as) (fun X hZ hw eT N => ?_) hr
  obtain ⟨T', h', X', e', W, st⟩ := putF X K.1 hZ hw wl via eT (H.fld ho hf) (H.atO ho) (L.imp id (fun z => ⟨z.1, z.2.1, K.2.2.2.2.2.2.2.trans z.2.2⟩)) wi hty hn hfit (g := mkF m pc Ls (v :: .ref a :: st)) rfl rfl (hb K.2.1 hd)
  exact ⟨T', h', _, X', Fr.snoc X' N (H.newO ho), e', Nat.le_of_eq (Wr.size W).symm, H.wrO ho hf W, st⟩
theorem own_new (K : own_Cx p s m meth c Z own nm bytes maxL ret) {i kk : Nat} {C : String} {fs : List (String × String × String × Value)} (hd : own_D bytes pc (.new i) 3 pc') (w1 : (Cond.classLink own i C).before a0 Z = true) (w2 : (Cond.instantiable C kk).before a0 Z = true) (w3 : (Cond.initialized C).before a0 Z = true) (H : own_H Z h os as)
    (hF : ∀ f ∈ fs, Laid Z a0 C f.1 f.2.1 f.2.2.1 ∧ ∃ ty, parseFieldDescriptor f.2.2.1 = some ty ∧ f.2.2.2 = defaultValue ty) (hP : fs.Pairwise (fun f g => slotOf Z f.1 f.2.1 f.2.2.1 ≠ slotOf Z g.1 g.2.1 g.2.2.1)) (hc : k + 1 ≤ R.cells) (hl : n + kk ≤ R.slots)
    (hr : ∀ h' a, own_H Z h' ((a, C, fs) :: os) as → own_G w p l e R s m args below meth c Z Q h' (k + 1) (n + kk) (mkF m pc' Ls (.ref a :: st))) : own_G w p l e R s m args below meth c Z Q h k n (mkF m pc Ls st) := by
  obtain ⟨hd, rfl⟩ := hd
  refine own_step K (P := fun h' => own_H Z h' ((h.size, C, fs) :: os) as) (fun X hZ hw eT N => ?_) (fun h' H' => hr h' _ H')
  obtain ⟨T', h', X', e', E, A, D, -, st⟩ := newO X K.1 hZ hw w1 w2 w3 eT (g := mkF m pc Ls st) rfl (hb K.2.1 hd) hc hl
  exact ⟨T', h', _, X', N, e', E.1, H.addO E ⟨A, fun f hf => by obtain ⟨hL, ty, t1, t2⟩ := hF f hf; show Fld Z h' h.size f.1 f.2.1 f.2.2.1 f.2.2.2; rw [t2]; exact D hL t1, hP⟩, st⟩
theorem own_newarray (K : own_Cx p s m meth c Z own nm bytes maxL ret) {aty : ArrayType} {ty : FieldType} {N : Int32} {q : Nat} {ad : String} {vs : List Value} (hd : own_D bytes pc (.newarray aty) 2 pc') (hty : newarray.typeOf aty = ty) (w1 : (Cond.arrayClass ty).before a0 Z = true) (H : own_H Z h os as) (hN : N.toInt = (q : Int)) (had : "[" ++ ty.toString = ad) (hvs : vs = List.replicate q (defaultValue ty)) (hq : q * 8 ≤ 536870912) (hc : k + 1 ≤ R.cells) (hl : n + q ≤ R.slots)
    (hr : ∀ h' a, own_H Z h' os ((a, ty, ad, vs) :: as) → own_G w p l e R s m args below meth c Z Q h' (k + 1) (n + q) (mkF m pc' Ls (.ref a :: st))) : own_G w p l e R s m args below meth c Z Q h k n (mkF m pc Ls (.int N :: st)) := by
  obtain ⟨hd, rfl⟩ := hd
  subst hty
  refine own_step K (P := fun h' => own_H Z h' os ((h.size, newarray.typeOf aty, ad, vs) :: as)) (fun X hZ hw eT N => ?_) (fun h' H' => hr h' _ H')
  have hNq := own_idx hN
  obtain ⟨T', h', cA, X', e', E, A, Ex, st⟩ := newPE X K.1 hZ w1 eT (g := mkF m pc Ls (.int _ :: st)) rfl (hb K.2.1 hd) rfl (by rw [Int32.lt_iff_toInt_lt, hN, show (0 : Int32).toInt = 0 from rfl]; omega) (cap := q) (Nat.le_of_eq hNq) hq hc hl had
  refine ⟨T', h', _, X', N, e', E.1, H.addA E ⟨_, A, ?_, ?_, fun _ => Ex, fun C hC => ?_⟩, st⟩
  · show (newA cA (newarray.typeOf aty) _).slots.toList = vs
    simp [newA, hNq, hvs]
  · intro v hv
    rw [show v = defaultValue (newarray.typeOf aty) from List.eq_of_mem_replicate (hvs ▸ hv)]
    cases aty <;> rfl
  · cases aty <;> cases hC
theorem own_iaload (K : own_Cx p s m meth c Z own nm bytes maxL ret) {i q : Nat} {a : Addr} {ad : String} {vs : List Value} {v : Value} {j : Int32} (hd : own_D bytes pc .iaload 1 pc') (H : own_H Z h os as) (ha : as[i]? = some (a, .int, ad, vs)) (hj : j.toInt = (q : Int)) (hv : vs[q]? = some v) (hr : own_G w p l e R s m args below meth c Z Q h k n (mkF m pc' Ls (v :: st))) : own_G w p l e R s m args below meth c Z Q h k n (mkF m pc Ls (.int j :: .ref a :: st)) := by
  obtain ⟨hd, rfl⟩ := hd
  obtain ⟨-, cl, A, e1, -⟩ := H.2.2.1 _ (own_mem ha)
  have hq := (List.getElem?_eq_some_iff.mp hv).1
  have hsz : cl.slots.size = vs.length := by rw [← Array.length_toList]; exact congrArg List.length e1
  exact own_pure K (fun X hZ _ eT _ r => X.iaload K.1 (by rw [eT]; exact A.1) (State.isArrayOf_alike hZ.alike A.2.1) A.2.2 (by rw [hsz]; exact own_in hj hq) (by rw [own_idx hj, ← Array.getElem?_toList]; exact (show cl.slots.toList = vs from e1) ▸ hv) (g := mkF m pc Ls (.int j :: .ref a :: st)) rfl rfl (hb K.2.1 hd) _ r) hr
theorem own_laload (K : own_Cx p s m meth c Z own nm bytes maxL ret) {i q : Nat} {a : Addr} {ad : String} {vs : List Value} {v : Value} {j : Int32} (hd : own_D bytes pc .laload 1 pc') (H : own_H Z h os as) (ha : as[i]? = some (a, .long, ad, vs)) (hj : j.toInt = (q : Int)) (hv : vs[q]? = some v) (hr : own_G w p l e R s m args below meth c Z Q h k n (mkF m pc' Ls (v :: st))) : own_G w p l e R s m args below meth c Z Q h k n (mkF m pc Ls (.int j :: .ref a :: st)) := by
  obtain ⟨hd, rfl⟩ := hd
  obtain ⟨-, cl, A, e1, -⟩ := H.2.2.1 _ (own_mem ha)
  have hq := (List.getElem?_eq_some_iff.mp hv).1
  have hsz : cl.slots.size = vs.length := by rw [← Array.length_toList]; exact congrArg List.length e1
  exact own_pure K (fun X hZ _ eT _ r => X.laload K.1 (by rw [eT]; exact A.1) (State.isArrayOf_alike hZ.alike A.2.1) A.2.2 (by rw [hsz]; exact own_in hj hq) (by rw [own_idx hj, ← Array.getElem?_toList]; exact (show cl.slots.toList = vs from e1) ▸ hv) (g := mkF m pc Ls (.int j :: .ref a :: st)) rfl rfl (hb K.2.1 hd) _ r) hr
theorem own_daload (K : own_Cx p s m meth c Z own nm bytes maxL ret) {i q : Nat} {a : Addr} {ad : String} {vs : List Value} {v : Value} {j : Int32} (hd : own_D bytes pc .daload 1 pc') (H : own_H Z h os as) (ha : as[i]? = some (a, .double, ad, vs)) (hj : j.toInt = (q : Int)) (hv : vs[q]? = some v) (hr : own_G w p l e R s m args below meth c Z Q h k n (mkF m pc' Ls (v :: st))) : own_G w p l e R s m args below meth c Z Q h k n (mkF m pc Ls (.int j :: .ref a :: st)) := by
  obtain ⟨hd, rfl⟩ := hd
  obtain ⟨-, cl, A, e1, -⟩ := H.2.2.1 _ (own_mem ha)
  have hq := (List.getElem?_eq_some_iff.mp hv).1
  have hsz : cl.slots.size = vs.length := by rw [← Array.length_toList]; exact congrArg List.length e1
  exact own_pure K (fun X hZ _ eT _ r => X.daload K.1 (by rw [eT]; exact A.1) (State.isArrayOf_alike hZ.alike A.2.1) A.2.2 (by rw [hsz]; exact own_in hj hq) (by rw [own_idx hj, ← Array.getElem?_toList]; exact (show cl.slots.toList = vs from e1) ▸ hv) (g := mkF m pc Ls (.int j :: .ref a :: st)) rfl rfl (hb K.2.1 hd) _ r) hr
theorem own_caload (K : own_Cx p s m meth c Z own nm bytes maxL ret) {i q : Nat} {a : Addr} {ad : String} {vs : List Value} {v : Value} {j : Int32} (hd : own_D bytes pc .caload 1 pc') (H : own_H Z h os as) (ha : as[i]? = some (a, .char, ad, vs)) (hj : j.toInt = (q : Int)) (hv : vs[q]? = some v) (hr : own_G w p l e R s m args below meth c Z Q h k n (mkF m pc' Ls (v :: st))) : own_G w p l e R s m args below meth c Z Q h k n (mkF m pc Ls (.int j :: .ref a :: st)) := by
  obtain ⟨hd, rfl⟩ := hd
  obtain ⟨-, cl, A, e1, -⟩ := H.2.2.1 _ (own_mem ha)
  have hq := (List.getElem?_eq_some_iff.mp hv).1
  have hsz : cl.slots.size = vs.length := by rw [← Array.length_toList]; exact congrArg List.length e1
  exact own_pure K (fun X hZ _ eT _ r => X.caload K.1 (by rw [eT]; exact A.1) (State.isArrayOf_alike hZ.alike A.2.1) A.2.2 (by rw [hsz]; exact own_in hj hq) (by rw [own_idx hj, ← Array.getElem?_toList]; exact (show cl.slots.toList = vs from e1) ▸ hv) (g := mkF m pc Ls (.int j :: .ref a :: st)) rfl rfl (hb K.2.1 hd) _ r) hr
theorem own_baload (K : own_Cx p s m meth c Z own nm bytes maxL ret) {i q : Nat} {a : Addr} {ad : String} {vs : List Value} {v : Value} {j : Int32} (hd : own_D bytes pc .baload 1 pc') (H : own_H Z h os as) (ha : as[i]? = some (a, .byte, ad, vs)) (hj : j.toInt = (q : Int)) (hv : vs[q]? = some v) (hr : own_G w p l e R s m args below meth c Z Q h k n (mkF m pc' Ls (v :: st))) : own_G w p l e R s m args below meth c Z Q h k n (mkF m pc Ls (.int j :: .ref a :: st)) := by
  obtain ⟨hd, rfl⟩ := hd
  obtain ⟨-, cl, A, e1, -⟩ := H.2.2.1 _ (own_mem ha)
  have hq := (List.getElem?_eq_some_iff.mp hv).1
  have hsz : cl.slots.size = vs.length := by rw [← Array.length_toList]; exact congrArg List.length e1
  exact own_pure K (fun X hZ _ eT _ r => X.baloadBytes K.1 (by rw [eT]; exact A.1) (State.isArrayOf_alike hZ.alike A.2.1) A.2.2 (by rw [hsz]; exact own_in hj hq) (by rw [own_idx hj, ← Array.getElem?_toList]; exact (show cl.slots.toList = vs from e1) ▸ hv) (g := mkF m pc Ls (.int j :: .ref a :: st)) rfl rfl (hb K.2.1 hd) _ r) hr
theorem own_aaload (K : own_Cx p s m meth c Z own nm bytes maxL ret) {i q : Nat} {a : Addr} {ad : String} {ty : FieldType} {vs : List Value} {v : Value} {j : Int32} (hd : own_D bytes pc .aaload 1 pc') (H : own_H Z h os as) (ha : as[i]? = some (a, ty, ad, vs)) (hty : ty.isReference = true) (hj : j.toInt = (q : Int)) (hv : vs[q]? = some v) (hr : own_G w p l e R s m args below meth c Z Q h k n (mkF m pc' Ls (v :: st))) : own_G w p l e R s m args below meth c Z Q h k n (mkF m pc Ls (.int j :: .ref a :: st)) := by
  obtain ⟨hd, rfl⟩ := hd
  obtain ⟨-, cl, A, e1, -⟩ := H.2.2.1 _ (own_mem ha)
  have hq := (List.getElem?_eq_some_iff.mp hv).1
  have hsz : cl.slots.size = vs.length := by rw [← Array.length_toList]; exact congrArg List.length e1
  exact own_pure K (fun X hZ _ eT _ r => X.aaload K.1 (by rw [eT]; exact A.1) (State.isArrayOf_alike hZ.alike A.2.1) hty A.2.2 (by rw [hsz]; exact own_in hj hq) (by rw [own_idx hj, ← Array.getElem?_toList]; exact (show cl.slots.toList = vs from e1) ▸ hv) (g := mkF m pc Ls (.int j :: .ref a :: st)) rfl rfl (hb K.2.1 hd) _ r) hr
theorem own_iastore (K : own_Cx p s m meth c Z own nm bytes maxL ret) {i q : Nat} {a : Addr} {ad : String} {vs : List Value} {j : Int32} {x : Int32} (hd : own_D bytes pc .iastore 1 pc') (H : own_H Z h os as) (ha : as[i]? = some (a, .int, ad, vs)) (hj : j.toInt = (q : Int)) (hq : q < vs.length) (hr : ∀ h', own_H Z h' os (as.set i (a, .int, ad, vs.set q (.int x))) → own_G w p l e R s m args below meth c Z Q h' k n (mkF m pc' Ls st)) : own_G w p l e R s m args below meth c Z Q h k n (mkF m pc Ls (.int x :: .int j :: .ref a :: st)) := by
  obtain ⟨hd, rfl⟩ := hd
  obtain ⟨na, cl, A, e1, -⟩ := H.2.2.1 _ (own_mem ha)
  have hsz : cl.slots.size = vs.length := by rw [← Array.length_toList]; exact congrArg List.length e1
  refine own_step K (P := fun h' => own_H Z h' os (as.set i (a, .int, ad, vs.set q (.int x)))) (fun X hZ _ eT N => ?_) hr
  obtain ⟨T', h', X', e', W, st⟩ := stI X K.1 hZ eT A (by rw [hsz]; exact own_in hj hq) (g := mkF m pc Ls (.int x :: .int j :: .ref a :: st)) rfl rfl (hb K.2.1 hd)
  exact ⟨T', h', _, X', Fr.snoc X' N na, e', Nat.le_of_eq (Wr.size W).symm, H.wrA ha hq (rfl) (by rw [own_idx hj] at W; exact W), st⟩
theorem own_lastore (K : own_Cx p s m meth c Z own nm bytes maxL ret) {i q : Nat} {a : Addr} {ad : String} {vs : List Value} {j : Int32} {x : Int64} (hd : own_D bytes pc .lastore 1 pc') (H : own_H Z h os as) (ha : as[i]? = some (a, .long, ad, vs)) (hj : j.toInt = (q : Int)) (hq : q < vs.length) (hr : ∀ h', own_H Z h' os (as.set i (a, .long, ad, vs.set q (.long x))) → own_G w p l e R s m args below meth c Z Q h' k n (mkF m pc' Ls st)) : own_G w p l e R s m args below meth c Z Q h k n (mkF m pc Ls (.long x :: .int j :: .ref a :: st)) := by
  obtain ⟨hd, rfl⟩ := hd
  obtain ⟨na, cl, A, e1, -⟩ := H.2.2.1 _ (own_mem ha)
  have hsz : cl.slots.size = vs.length := by rw [← Array.length_toList]; exact congrArg List.length e1
  refine own_step K (P := fun h' => own_H Z h' os (as.set i (a, .long, ad, vs.set q (.long x)))) (fun X hZ _ eT N => ?_) hr
  obtain ⟨T', h', X', e', W, st⟩ := stJ X K.1 hZ eT A (by rw [hsz]; exact own_in hj hq) (g := mkF m pc Ls (.long x :: .int j :: .ref a :: st)) rfl rfl (hb K.2.1 hd)
  exact ⟨T', h', _, X', Fr.snoc X' N na, e', Nat.le_of_eq (Wr.size W).symm, H.wrA ha hq (rfl) (by rw [own_idx hj] at W; exact W), st⟩
theorem own_dastore (K : own_Cx p s m meth c Z own nm bytes maxL ret) {i q : Nat} {a : Addr} {ad : String} {vs : List Value} {j : Int32} {x : UInt64} (hd : own_D bytes pc .dastore 1 pc') (H : own_H Z h os as) (ha : as[i]? = some (a, .double, ad, vs)) (hj : j.toInt = (q : Int)) (hq : q < vs.length) (hr : ∀ h', own_H Z h' os (as.set i (a, .double, ad, vs.set q (.double x))) → own_G w p l e R s m args below meth c Z Q h' k n (mkF m pc' Ls st)) : own_G w p l e R s m args below meth c Z Q h k n (mkF m pc Ls (.double x :: .int j :: .ref a :: st)) := by
  obtain ⟨hd, rfl⟩ := hd
  obtain ⟨na, cl, A, e1, -⟩ := H.2.2.1 _ (own_mem ha)
  have hsz : cl.slots.size = vs.length := by rw [← Array.length_toList]; exact congrArg List.length e1
  refine own_step K (P := fun h' => own_H Z h' os (as.set i (a, .double, ad, vs.set q (.double x)))) (fun X hZ _ eT N => ?_) hr
  obtain ⟨T', h', X', e', W, st⟩ := stD X K.1 hZ eT A (by rw [hsz]; exact own_in hj hq) (g := mkF m pc Ls (.double x :: .int j :: .ref a :: st)) rfl rfl (hb K.2.1 hd)
  exact ⟨T', h', _, X', Fr.snoc X' N na, e', Nat.le_of_eq (Wr.size W).symm, H.wrA ha hq (rfl) (by rw [own_idx hj] at W; exact W), st⟩
theorem own_castore (K : own_Cx p s m meth c Z own nm bytes maxL ret) {i q : Nat} {a : Addr} {ad : String} {vs : List Value} {j : Int32} {x : Int32} (hd : own_D bytes pc .castore 1 pc') (H : own_H Z h os as) (ha : as[i]? = some (a, .char, ad, vs)) (hj : j.toInt = (q : Int)) (hq : q < vs.length) (hr : ∀ h', own_H Z h' os (as.set i (a, .char, ad, vs.set q (.int (nar .char x)))) → own_G w p l e R s m args below meth c Z Q h' k n (mkF m pc' Ls st)) : own_G w p l e R s m args below meth c Z Q h k n (mkF m pc Ls (.int x :: .int j :: .ref a :: st)) := by
  obtain ⟨hd, rfl⟩ := hd
  obtain ⟨na, cl, A, e1, -⟩ := H.2.2.1 _ (own_mem ha)
  have hsz : cl.slots.size = vs.length := by rw [← Array.length_toList]; exact congrArg List.length e1
  refine own_step K (P := fun h' => own_H Z h' os (as.set i (a, .char, ad, vs.set q (.int (nar .char x))))) (fun X hZ _ eT N => ?_) hr
  obtain ⟨T', h', X', e', W, st⟩ := stC X K.1 hZ eT A (by rw [hsz]; exact own_in hj hq) (g := mkF m pc Ls (.int x :: .int j :: .ref a :: st)) rfl rfl (hb K.2.1 hd)
  exact ⟨T', h', _, X', Fr.snoc X' N na, e', Nat.le_of_eq (Wr.size W).symm, H.wrA ha hq (by first | exact fits_nar_char _ | exact fits_nar_char | (simp [fits_nar_char]; done)) (by rw [own_idx hj] at W; exact W), st⟩
theorem own_bastore (K : own_Cx p s m meth c Z own nm bytes maxL ret) {i q : Nat} {a : Addr} {ad : String} {vs : List Value} {j : Int32} {x : Int32} (hd : own_D bytes pc .bastore 1 pc') (H : own_H Z h os as) (ha : as[i]? = some (a, .byte, ad, vs)) (hj : j.toInt = (q : Int)) (hq : q < vs.length) (hr : ∀ h', own_H Z h' os (as.set i (a, .byte, ad, vs.set q (.int (nar .byte x)))) → own_G w p l e R s m args below meth c Z Q h' k n (mkF m pc' Ls st)) : own_G w p l e R s m args below meth c Z Q h k n (mkF m pc Ls (.int x :: .int j :: .ref a :: st)) := by
  obtain ⟨hd, rfl⟩ := hd
  obtain ⟨na, cl, A, e1, -⟩ := H.2.2.1 _ (own_mem ha)
  have hsz : cl.slots.size = vs.length := by rw [← Array.length_toList]; exact congrArg List.length e1
  refine own_step K (P := fun h' => own_H Z h' os (as.set i (a, .byte, ad, vs.set q (.int (nar .byte x))))) (fun X hZ _ eT N => ?_) hr
  obtain ⟨T', h', X', e', W, st⟩ := stB X K.1 hZ eT A (by rw [hsz]; exact own_in hj hq) (g := mkF m pc Ls (.int x :: .int j :: .ref a :: st)) rfl rfl (hb K.2.1 hd)
  exact ⟨T', h', _, X', Fr.snoc X' N na, e', Nat.le_of_eq (Wr.size W).symm, H.wrA ha hq (by first | exact fits_nar_byte _ | exact fits_nar_byte | (simp [fits_nar_byte]; done)) (by rw [own_idx hj] at W; exact W), st⟩
theorem own_arraylength (K : own_Cx p s m meth c Z own nm bytes maxL ret) {i : Nat} {a : Addr} {ad : String} {ty : FieldType} {vs : List Value} {N : Int32} (hd : own_D bytes pc .arraylength 1 pc') (H : own_H Z h os as) (ha : as[i]? = some (a, ty, ad, vs)) (hN : N.toInt = (vs.length : Int)) (hr : own_G w p l e R s m args below meth c Z Q h k n (mkF m pc' Ls (.int N :: st))) : own_G w p l e R s m args below meth c Z Q h k n (mkF m pc Ls (.ref a :: st)) := by
  obtain ⟨hd, rfl⟩ := hd
  obtain ⟨-, cl, A, e1, -⟩ := H.2.2.1 _ (own_mem ha)
  have hsz : cl.slots.size = vs.length := by rw [← Array.length_toList]; exact congrArg List.length e1
  have e2 : cl.slots.size.toInt32 = N := by rw [hsz]; exact own_len hN
  exact own_pure K (fun X hZ _ eT _ r => X.arraylength K.1 (by rw [eT]; exact A.1) (State.isArrayOf_alike hZ.alike A.2.1) (g := mkF m pc Ls (.ref a :: st)) rfl rfl (hb K.2.1 hd) _ (by rw [e2]; exact r)) hr
theorem own_checkcast (K : own_Cx p s m meth c Z own nm bytes maxL ret) {i : Nat} {a : Addr} {Kn : String} (hd : own_D bytes pc (.checkcast i) 3 pc') (w1 : (Cond.classLink own i Kn).before a0 Z = true) (I : Ins Z h a Kn true) (hr : own_G w p l e R s m args below meth c Z Q h k n (mkF m pc' Ls (.ref a :: st))) : own_G w p l e R s m args below meth c Z Q h k n (mkF m pc Ls (.ref a :: st)) := by
  obtain ⟨hd, rfl⟩ := hd
  refine own_step K (P := fun h' => h' = h) (fun X hZ hw eT N => ?_) (fun h' e => by subst e; exact hr)
  obtain ⟨T', X', e', st⟩ := castY X K.1 hZ hw w1 eT I (g := mkF m pc Ls (.ref a :: st)) rfl rfl (hb K.2.1 hd)
  exact ⟨T', _, _, X', N, e', Nat.le_refl _, rfl, st⟩
theorem own_H.exaA (H : own_H Z h os as) {i : Nat} {a : Addr} {ty : FieldType} {ad : String} {vs : List Value} (ha : as[i]? = some (a, ty, ad, vs)) (hn : ad ≠ "") : Exa Z h a ad := by
  obtain ⟨-, cl, -, -, -, h4, -⟩ := H.2.2.1 _ (own_mem ha); exact h4 hn
theorem own_clone (K : own_Cx p s m meth c Z own nm bytes maxL ret) {i j : Nat} {a : Addr} {ty : FieldType} {ad : String} {vs : List Value} (hd : own_D bytes pc (.invokevirtual i) 3 pc') (w1 : (Cond.methodLink own i ⟨ad, "clone", "()Ljava/lang/Object;"⟩).before a0 Z = true) (w2 : (Cond.sameMethod ad "java/lang/Object" "clone" "()Ljava/lang/Object;").before a0 Z = true) (w3 : (Cond.native ⟨"java/lang/Object", "clone", "()Ljava/lang/Object;"⟩).before a0 Z = true)
    (w4 : (Cond.instanceMethod ⟨"java/lang/Object", "clone", "()Ljava/lang/Object;"⟩).before a0 Z = true) (w5 : (Cond.selects ad ⟨ad, "clone", "()Ljava/lang/Object;"⟩ ⟨"java/lang/Object", "clone", "()Ljava/lang/Object;"⟩).before a0 Z = true) (w6 : (Cond.castable ad "java/lang/Cloneable").before a0 Z = true)
    (H : own_H Z h os as) (ha : as[j]? = some (a, ty, ad, vs)) (hn : ad ≠ "") (hsz : Ls.size = maxL) (hf : 1 ≤ R.frames) {W : Nat} (hW : (st.map fun v => v.category).sum ≤ W) (hl : W + 14 ≤ R.locals) (hc : k + 1 ≤ R.cells) (hsl : n + vs.length ≤ R.slots)
    (hr : ∀ h' b, own_H Z h' os ((b, ty, ad, vs) :: as) → own_G w p l e R s m args below meth c Z Q h' (k + 1) (n + vs.length) (mkF m pc' Ls (.ref b :: st))) : own_G w p l e R s m args below meth c Z Q h k n (mkF m pc Ls (.ref a :: st)) := by
  obtain ⟨hd, rfl⟩ := hd
  obtain ⟨-, cl, A, e1, e3, e4, e5⟩ := H.2.2.1 _ (own_mem ha)
  have hsz' : cl.slots.size = vs.length := by rw [← Array.length_toList]; exact congrArg List.length e1
  have F : FitC Z cl := fun i v hv => by
    obtain ⟨hs, k, hk, comp, hkind⟩ := A.2.1
    have hm : v ∈ vs := by
      have : cl.slots.toList[i]? = some v := by rw [Array.getElem?_toList]; exact hv
      exact (show cl.slots.toList = vs from e1) ▸ own_mem this
    simp [State.fitsSlot, State.slotType?, hk, hkind, show fits ty v = true from e3 v hm]
  refine own_step K (P := fun h' => own_H Z h' os ((h.size, ty, ad, vs) :: as)) (fun X hZ hw eT N => ?_) (fun h' H' => hr h' _ H')
  obtain ⟨T', h', X', e', E, A', Ex, st⟩ := cloneA X K.1 hZ hw w1 w2 w3 w4 w5 w6 eT A (e4 hn) F (g := mkF m pc Ls (.ref a :: st)) rfl (hsz.trans K.2.2.1.symm) rfl (hb K.2.1 hd) hf (W := W) (by show 2 * 0 + _ ≤ W; simpa using hW) hl (cap := vs.length) (Nat.le_of_eq hsz') hc hsl
  exact ⟨T', h', _, X', N, e', E.1, H.addA E ⟨_, A', e1, e3, fun _ => Ex, e5⟩, st⟩
theorem own_initO (K : own_Cx p s m meth c Z own nm bytes maxL ret) {i : Nat} {a : Addr} (hd : own_D bytes pc (.invokespecial i) 3 pc') (w1 : (Cond.methodLink own i Lib.objectInit).before a0 Z = true) (w2 : (Cond.instanceMethod Lib.objectInit).before a0 Z = true) (w3 : (Cond.code Lib.objectInit ⟨#[0xb1]⟩ 1 none).before a0 Z = true) (hsz : Ls.size = maxL) (hf : 1 ≤ R.frames) {W : Nat} (hW : (st.map fun v => v.category).sum ≤ W) (hl : W + 12 ≤ R.locals) (hr : own_G w p l e R s m args below meth c Z Q h k n (mkF m pc' Ls st)) : own_G w p l e R s m args below meth c Z Q h k n (mkF m pc Ls (.ref a :: st)) := by
  obtain ⟨hd, rfl⟩ := hd
  refine own_step K (P := fun h' => h' = h) (fun X hZ hw eT N => ?_) (fun h' e => by subst e; exact hr)
  obtain ⟨T', X', e', st⟩ := initO X K.1 hZ hw w1 w2 w3 eT (g := mkF m pc Ls (.ref a :: st)) rfl (hsz.trans K.2.2.1.symm) rfl (hb K.2.1 hd) hf (W := W) (by show 2 * 0 + _ ≤ W; simpa using hW) hl
  exact ⟨T', _, _, X', N, e', Nat.le_refl _, rfl, st⟩
theorem own_static (K : own_Cx p s m meth c Z own nm bytes maxL ret) {i ml W : Nat} {y : MethodName} {b : ByteArray} {rt : Option FieldType} {rm : Room} {argsL : List Value} {Qc : Option Value → Heap → Prop} {ps : List FieldType} {r : Option FieldType} (hd : own_D bytes pc (.invokestatic i) 3 pc') (w1 : (Cond.methodLink own i y).before a0 Z = true) (w2 : (Cond.static y).before a0 Z = true) (w3 : (Cond.initialized y.cls).before a0 Z = true) (w4 : (Cond.code y b ml rt).before a0 Z = true)
    (hM : own_Met false l Z y b ml rt [] rm argsL.toArray h Qc) (hp : parseMethodDescriptor y.desc = some ⟨ps, r⟩) (hlen : argsL.length = ps.length) (hst : st = argsL.reverse ++ rest) (hsz : Ls.size = maxL) (hy : y.cls ≠ "java/lang/invoke/MethodHandle" ∧ y.cls ≠ "java/lang/invoke/VarHandle") (hW : (rest.map fun v => v.category).sum ≤ W) (hf : rm.frames + 1 ≤ R.frames) (hl : W + (ml + 11) + rm.locals ≤ R.locals) (hc : k + rm.cells ≤ R.cells) (hs : n + rm.slots ≤ R.slots)
    (hr : ∀ v h', Qc v h' → own_G w p l e R s m args below meth c Z Q h' (k + rm.cells) (n + rm.slots) (mkF m (pc') Ls (v.toList ++ rest))) : own_G w p l e R s m args below meth c Z Q h k n (mkF m pc Ls st) := by
  obtain ⟨hd, rfl⟩ := hd
  intro T hX
  obtain ⟨L, vm, X, N, eT, hw, hS⟩ := hX
  have hZ := own_zw K.2.2.2.2.2.1 hS
  have hown : (s.setVm vm).vm.findClass own = some m.cls := by rw [show (s.setVm vm).vm = vm from rfl, hS.1.alike.findClass]; exact K.2.2.2.2.2.2.1
  obtain ⟨v, vm1, ⟨T1, L1, k1, n1⟩, -, X1, ⟨Lc, ⟨hQ, N1, z1⟩, l1, y1, x1⟩, st1⟩ := Jvm.LawKit.callS X K.1 (y := y) hown (mvT hZ w1) (mvT hZ w2) (mvT hZ w3) (mvT hZ w4) hy (backOf (W := W) (Q := fun v h'' L => Qc v h'' ∧ Fr Z.heap.size L ∧ h.size ≤ h''.size) (show MetFree _ _ _ _ _ _ from hM) hZ w4 w3 hf hl) (g := mkF m pc Ls st) rfl (hsz.trans K.2.2.1.symm) (argsL := argsL) (rest := rest) (lenOf hp hlen) hst (by show 2 * 0 + _ ≤ W; simpa using hW) (hb K.2.1 hd) (fun _ _ => ⟨rfl, eT, hc, hs⟩)
  dsimp only [Pt.U, Pt.locs, Pt.cells, Pt.slots] at X1 l1 y1 x1 st1 hQ z1
  subst l1 y1 x1
  obtain ⟨T', v', h', k', n', hX', r1, r2, r3, r4, r5⟩ := hr v T1.heap hQ T1 ⟨_, vm, X1, N.app N1, rfl, hw, own_since hS z1⟩
  exact ⟨T', v', h', k', n', hX', r1, r2, r3, r4, fun fs q => st1 _ (r5 fs q)⟩
theorem own_special (K : own_Cx p s m meth c Z own nm bytes maxL ret) {i ml W : Nat} {y : MethodName} {b : ByteArray} {rm : Room} {a : Addr} {argsL : List Value} {Qc : Option Value → Heap → Prop} {ps : List FieldType} {r : Option FieldType} (hd : own_D bytes pc (.invokespecial i) 3 pc') (hy1 : y.name = "<init>") (w1 : (Cond.methodLink own i y).before a0 Z = true) (w2 : (Cond.instanceMethod y).before a0 Z = true) (w3 : (Cond.initialized y.cls).before a0 Z = true) (w4 : (Cond.code y b ml none).before a0 Z = true)
    (hM : own_Met false l Z y b ml none [] rm (.ref a :: argsL).toArray h Qc) (hp : parseMethodDescriptor y.desc = some ⟨ps, r⟩) (hlen : argsL.length = ps.length) (hst : st = argsL.reverse ++ .ref a :: rest) (hsz : Ls.size = maxL) (hy : y.cls ≠ "java/lang/invoke/MethodHandle" ∧ y.cls ≠ "java/lang/invoke/VarHandle") (hW : (rest.map fun v => v.category).sum ≤ W) (hf : rm.frames + 1 ≤ R.frames) (hl : W + (ml + 11) + rm.locals ≤ R.locals) (hc : k + rm.cells ≤ R.cells) (hs : n + rm.slots ≤ R.slots)
    (hr : ∀ v h', Qc v h' → own_G w p l e R s m args below meth c Z Q h' (k + rm.cells) (n + rm.slots) (mkF m (pc') Ls (v.toList ++ rest))) : own_G w p l e R s m args below meth c Z Q h k n (mkF m pc Ls st) := by
  obtain ⟨hd, rfl⟩ := hd
  intro T hX
  obtain ⟨L, vm, X, N, eT, hw, hS⟩ := hX
  have hZ := own_zw K.2.2.2.2.2.1 hS
  have hown : (s.setVm vm).vm.findClass own = some m.cls := by rw [show (s.setVm vm).vm = vm from rfl, hS.1.alike.findClass]; exact K.2.2.2.2.2.2.1
  obtain ⟨v, vm1, ⟨T1, L1, k1, n1⟩, -, X1, ⟨Lc, ⟨hQ, N1, z1⟩, l1, y1, x1⟩, st1⟩ := X.specialBack K.1 (y := y) hy1 hown (mvT hZ w1) (mvT hZ w2) (mvT hZ w4) hy (backOf (W := W) (Q := fun v h'' L => Qc v h'' ∧ Fr Z.heap.size L ∧ h.size ≤ h''.size) (show MetFree _ _ _ _ _ _ from hM) hZ w4 w3 hf hl) (g := mkF m pc Ls st) rfl (hsz.trans K.2.2.1.symm) (Steps.refl _) (a := a) (argsL := argsL) (rest := rest) (lenOf hp hlen) hst (by show 2 * 0 + _ ≤ W; simpa using hW) (hb K.2.1 hd) (fun _ _ => ⟨rfl, eT, hc, hs⟩)
  dsimp only [Pt.U, Pt.locs, Pt.cells, Pt.slots] at X1 l1 y1 x1 st1 hQ z1
  subst l1 y1 x1
  obtain ⟨T', v', h', k', n', hX', r1, r2, r3, r4, r5⟩ := hr v T1.heap hQ T1 ⟨_, vm, X1, N.app N1, rfl, hw, own_since hS z1⟩
  exact ⟨T', v', h', k', n', hX', r1, r2, r3, r4, fun fs q => st1.trans (r5 fs q)⟩
theorem own_virtual (K : own_Cx p s m meth c Z own nm bytes maxL ret) {i ml W : Nat} {y : MethodName} {C : String} {b : ByteArray} {rt : Option FieldType} {rm : Room} {a : Addr} {argsL : List Value} {Qc : Option Value → Heap → Prop} {ps : List FieldType} {r : Option FieldType} (hd : own_D bytes pc (.invokevirtual i) 3 pc') (w1 : (Cond.methodLink own i y).before a0 Z = true) (w2 : (Cond.declares y).before a0 Z = true) (w5 : (Cond.selects C y y).before a0 Z = true) (w6 : (Cond.instanceMethod y).before a0 Z = true) (w3 : (Cond.initialized y.cls).before a0 Z = true) (w4 : (Cond.code y b ml rt).before a0 Z = true)
    (E : Exa Z h a C) (hM : own_Met false l Z y b ml rt [] rm (.ref a :: argsL).toArray h Qc) (hp : parseMethodDescriptor y.desc = some ⟨ps, r⟩) (hlen : argsL.length = ps.length) (hst : st = argsL.reverse ++ .ref a :: rest) (hsz : Ls.size = maxL) (hy : y.cls ≠ "java/lang/invoke/MethodHandle" ∧ y.cls ≠ "java/lang/invoke/VarHandle") (hW : (rest.map fun v => v.category).sum ≤ W) (hf : rm.frames + 1 ≤ R.frames) (hl : W + (ml + 11) + rm.locals ≤ R.locals) (hc : k + rm.cells ≤ R.cells) (hs : n + rm.slots ≤ R.slots)
    (hr : ∀ v h', Qc v h' → own_G w p l e R s m args below meth c Z Q h' (k + rm.cells) (n + rm.slots) (mkF m (pc') Ls (v.toList ++ rest))) : own_G w p l e R s m args below meth c Z Q h k n (mkF m pc Ls st) := by
  obtain ⟨hd, rfl⟩ := hd
  intro T hX
  obtain ⟨L, vm, X, N, eT, hw, hS⟩ := hX
  have hZ := own_zw K.2.2.2.2.2.1 hS
  have hown : (s.setVm vm).vm.findClass own = some m.cls := by rw [show (s.setVm vm).vm = vm from rfl, hS.1.alike.findClass]; exact K.2.2.2.2.2.2.1
  obtain ⟨cq, kq, qa, qb, qc⟩ := isOf (s := s.setVm vm) hZ eT E
  obtain ⟨v, vm1, ⟨T1, L1, k1, n1⟩, -, X1, ⟨Lc, ⟨hQ, N1, z1⟩, l1, y1, x1⟩, st1⟩ := X.virtualBack K.1 (y := y) (z := y) hown (mvT hZ w1) (mvT hZ w2) (notFace_of_selects (C := C) (args := #[]) (mvT hZ w5)) (mvT hZ w5) (mvT hZ w6) hy (backOf (W := W) (Q := fun v h'' L => Qc v h'' ∧ Fr Z.heap.size L ∧ h.size ≤ h''.size) (show MetFree _ _ _ _ _ _ from hM) hZ w4 w3 hf hl) qa qc (g := mkF m pc Ls st) rfl (hsz.trans K.2.2.1.symm) (Steps.refl _) (argsL := argsL) (rest := rest) (lenOf hp hlen) hst (by show 2 * 0 + _ ≤ W; simpa using hW) (hb K.2.1 hd) (fun _ _ => ⟨rfl, eT, hc, hs⟩)
  dsimp only [Pt.U, Pt.locs, Pt.cells, Pt.slots] at X1 l1 y1 x1 st1 hQ z1
  subst l1 y1 x1
  obtain ⟨T', v', h', k', n', hX', r1, r2, r3, r4, r5⟩ := hr v T1.heap hQ T1 ⟨_, vm, X1, N.app N1, rfl, hw, own_since hS z1⟩
  exact ⟨T', v', h', k', n', hX', r1, r2, r3, r4, fun fs q => st1.trans (r5 fs q)⟩
theorem own_virtualZ (K : own_Cx p s m meth c Z own nm bytes maxL ret) {i ml W : Nat} {y z : MethodName} {C : String} {b : ByteArray} {rt : Option FieldType} {rm : Room} {a : Addr} {argsL : List Value} {Qc : Option Value → Heap → Prop} {ps : List FieldType} {r : Option FieldType} (hd : own_D bytes pc (.invokevirtual i) 3 pc') (w1 : (Cond.methodLink own i y).before a0 Z = true) (w2 : (Cond.declares y).before a0 Z = true) (w5 : (Cond.selects C y z).before a0 Z = true) (w6 : (Cond.instanceMethod z).before a0 Z = true) (w3 : (Cond.initialized z.cls).before a0 Z = true) (w4 : (Cond.code z b ml rt).before a0 Z = true)
    (E : Exa Z h a C) (hnf : ∀ vm, s.Warmed39 vm → NotFace (s.setVm vm) y) (hM : own_Met false l Z z b ml rt [] rm (.ref a :: argsL).toArray h Qc) (hp : parseMethodDescriptor y.desc = some ⟨ps, r⟩) (hlen : argsL.length = ps.length) (hst : st = argsL.reverse ++ .ref a :: rest) (hsz : Ls.size = maxL) (hy : y.cls ≠ "java/lang/invoke/MethodHandle" ∧ y.cls ≠ "java/lang/invoke/VarHandle") (hW : (rest.map fun v => v.category).sum ≤ W) (hf : rm.frames + 1 ≤ R.frames) (hl : W + (ml + 11) + rm.locals ≤ R.locals) (hc : k + rm.cells ≤ R.cells) (hs : n + rm.slots ≤ R.slots)
    (hr : ∀ v h', Qc v h' → own_G w p l e R s m args below meth c Z Q h' (k + rm.cells) (n + rm.slots) (mkF m (pc') Ls (v.toList ++ rest))) : own_G w p l e R s m args below meth c Z Q h k n (mkF m pc Ls st) := by
  obtain ⟨hd, rfl⟩ := hd
  intro T hX
  obtain ⟨L, vm, X, N, eT, hw, hS⟩ := hX
  have hZ := own_zw K.2.2.2.2.2.1 hS
  have hown : (s.setVm vm).vm.findClass own = some m.cls := by rw [show (s.setVm vm).vm = vm from rfl, hS.1.alike.findClass]; exact K.2.2.2.2.2.2.1
  obtain ⟨cq, kq, qa, qb, qc⟩ := isOf (s := s.setVm vm) hZ eT E
  obtain ⟨v, vm1, ⟨T1, L1, k1, n1⟩, -, X1, ⟨Lc, ⟨hQ, N1, z1⟩, l1, y1, x1⟩, st1⟩ := X.virtualBack K.1 (y := y) (z := z) hown (mvT hZ w1) (mvT hZ w2) (hnf vm hS.1) (mvT hZ w5) (mvT hZ w6) hy (backOf (W := W) (Q := fun v h'' L => Qc v h'' ∧ Fr Z.heap.size L ∧ h.size ≤ h''.size) (show MetFree _ _ _ _ _ _ from hM) hZ w4 w3 hf hl) qa qc (g := mkF m pc Ls st) rfl (hsz.trans K.2.2.1.symm) (Steps.refl _) (argsL := argsL) (rest := rest) (lenOf hp hlen) hst (by show 2 * 0 + _ ≤ W; simpa using hW) (hb K.2.1 hd) (fun _ _ => ⟨rfl, eT, hc, hs⟩)
  dsimp only [Pt.U, Pt.locs, Pt.cells, Pt.slots] at X1 l1 y1 x1 st1 hQ z1
  subst l1 y1 x1
  obtain ⟨T', v', h', k', n', hX', r1, r2, r3, r4, r5⟩ := hr v T1.heap hQ T1 ⟨_, vm, X1, N.app N1, rfl, hw, own_since hS z1⟩
  exact ⟨T', v', h', k', n', hX', r1, r2, r3, r4, fun fs q => st1.trans (r5 fs q)⟩
theorem own_retI (K : own_Cx p s m meth c Z own nm bytes maxL (some .int)) {z : Int32} (hd : own_D bytes pc .ireturn 1 pc') (hk : k ≤ R.cells) (hn : n ≤ R.slots) (hQ : Q (some (.int z)) h) : own_G w p l e R s m args below meth c Z Q h k n (mkF m pc Ls (.int z :: st)) := by
  obtain ⟨hd, -⟩ := hd
  intro T hX
  obtain ⟨L, vm, X, N, eT, hw, hS⟩ := hX
  exact ⟨T, some (.int z), h, k, n, ⟨L, vm, X, N, eT, hw, hS⟩, hk, hn, (fun q => by rw [K.2.2.2.1] at q; cases q), hQ, fun fs q => retOut X K.1 K.2.2.2.1 (rfl) (Or.inl ⟨rfl, Or.inl rfl, z, rfl⟩) (hb K.2.1 hd) q⟩
theorem own_retZ (K : own_Cx p s m meth c Z own nm bytes maxL (some .boolean)) {z : Int32} (hz : z = 0 ∨ z = 1) (hd : own_D bytes pc .ireturn 1 pc') (hk : k ≤ R.cells) (hn : n ≤ R.slots) (hQ : Q (some (.int z)) h) : own_G w p l e R s m args below meth c Z Q h k n (mkF m pc Ls (.int z :: st)) := by
  obtain ⟨hd, -⟩ := hd
  intro T hX
  obtain ⟨L, vm, X, N, eT, hw, hS⟩ := hX
  exact ⟨T, some (.int z), h, k, n, ⟨L, vm, X, N, eT, hw, hS⟩, hk, hn, (fun q => by rw [K.2.2.2.1] at q; cases q), hQ, fun fs q => retOut X K.1 K.2.2.2.1 (by rcases hz with rfl | rfl <;> decide) (Or.inl ⟨rfl, Or.inr (Or.inl rfl), z, rfl⟩) (hb K.2.1 hd) q⟩
theorem own_retC (K : own_Cx p s m meth c Z own nm bytes maxL (some .char)) {z : Int32} (hz : narrow .char (.int z) = .int z) (hd : own_D bytes pc .ireturn 1 pc') (hk : k ≤ R.cells) (hn : n ≤ R.slots) (hQ : Q (some (.int z)) h) : own_G w p l e R s m args below meth c Z Q h k n (mkF m pc Ls (.int z :: st)) := by
  obtain ⟨hd, -⟩ := hd
  intro T hX
  obtain ⟨L, vm, X, N, eT, hw, hS⟩ := hX
  exact ⟨T, some (.int z), h, k, n, ⟨L, vm, X, N, eT, hw, hS⟩, hk, hn, (fun q => by rw [K.2.2.2.1] at q; cases q), hQ, fun fs q => retOut X K.1 K.2.2.2.1 (hz) (Or.inl ⟨rfl, Or.inr (Or.inr (Or.inr (Or.inl rfl))), z, rfl⟩) (hb K.2.1 hd) q⟩
theorem own_retBy (K : own_Cx p s m meth c Z own nm bytes maxL (some .byte)) {z : Int32} (hz : narrow .byte (.int z) = .int z) (hd : own_D bytes pc .ireturn 1 pc') (hk : k ≤ R.cells) (hn : n ≤ R.slots) (hQ : Q (some (.int z)) h) : own_G w p l e R s m args below meth c Z Q h k n (mkF m pc Ls (.int z :: st)) := by
  obtain ⟨hd, -⟩ := hd
  intro T hX
  obtain ⟨L, vm, X, N, eT, hw, hS⟩ := hX
  exact ⟨T, some (.int z), h, k, n, ⟨L, vm, X, N, eT, hw, hS⟩, hk, hn, (fun q => by rw [K.2.2.2.1] at q; cases q), hQ, fun fs q => retOut X K.1 K.2.2.2.1 (hz) (Or.inl ⟨rfl, Or.inr (Or.inr (Or.inl rfl)), z, rfl⟩) (hb K.2.1 hd) q⟩
theorem own_retL (K : own_Cx p s m meth c Z own nm bytes maxL (some .long)) {z : Int64} (hd : own_D bytes pc .lreturn 1 pc') (hk : k ≤ R.cells) (hn : n ≤ R.slots) (hQ : Q (some (.long z)) h) : own_G w p l e R s m args below meth c Z Q h k n (mkF m pc Ls (.long z :: st)) := by
  obtain ⟨hd, -⟩ := hd
  intro T hX
  obtain ⟨L, vm, X, N, eT, hw, hS⟩ := hX
  exact ⟨T, some (.long z), h, k, n, ⟨L, vm, X, N, eT, hw, hS⟩, hk, hn, (fun q => by rw [K.2.2.2.1] at q; cases q), hQ, fun fs q => retOut X K.1 K.2.2.2.1 (rfl) (Or.inr (Or.inl ⟨rfl, rfl, z, rfl⟩)) (hb K.2.1 hd) q⟩
theorem own_retD (K : own_Cx p s m meth c Z own nm bytes maxL (some .double)) {z : UInt64} (hd : own_D bytes pc .dreturn 1 pc') (hk : k ≤ R.cells) (hn : n ≤ R.slots) (hQ : Q (some (.double z)) h) : own_G w p l e R s m args below meth c Z Q h k n (mkF m pc Ls (.double z :: st)) := by
  obtain ⟨hd, -⟩ := hd
  intro T hX
  obtain ⟨L, vm, X, N, eT, hw, hS⟩ := hX
  exact ⟨T, some (.double z), h, k, n, ⟨L, vm, X, N, eT, hw, hS⟩, hk, hn, (fun q => by rw [K.2.2.2.1] at q; cases q), hQ, fun fs q => retOut X K.1 K.2.2.2.1 (rfl) (Or.inr (Or.inr (Or.inl ⟨rfl, rfl, z, rfl⟩))) (hb K.2.1 hd) q⟩
theorem own_retA (K : own_Cx p s m meth c Z own nm bytes maxL (some tyR)) {v : Value} (hty : tyR.isReference = true) (hv : v.isRef = true) (hd : own_D bytes pc .areturn 1 pc') (hk : k ≤ R.cells) (hn : n ≤ R.slots) (hQ : Q (some (v)) h) : own_G w p l e R s m args below meth c Z Q h k n (mkF m pc Ls (v :: st)) := by
  obtain ⟨hd, -⟩ := hd
  intro T hX
  obtain ⟨L, vm, X, N, eT, hw, hS⟩ := hX
  exact ⟨T, some (v), h, k, n, ⟨L, vm, X, N, eT, hw, hS⟩, hk, hn, (fun q => by rw [K.2.2.2.1] at q; cases q), hQ, fun fs q => retOut X K.1 K.2.2.2.1 (by rcases ref_cases hv with rfl | ⟨a, rfl⟩ <;> cases tyR <;> first | rfl | cases hty) (Or.inr (Or.inr (Or.inr (Or.inr ⟨rfl, hty, hv⟩)))) (hb K.2.1 hd) q⟩
theorem own_retV (K : own_Cx p s m meth c Z own nm bytes maxL none) (hd : own_D bytes pc .return_ 1 pc') (hk : k ≤ R.cells) (hn : n ≤ R.slots) (hQ : Q none h) : own_G w p l e R s m args below meth c Z Q h k n (mkF m pc Ls []) := by
  obtain ⟨hd, -⟩ := hd
  intro T hX
  obtain ⟨L, vm, X, N, eT, hw, hS⟩ := hX
  exact ⟨T, none, h, k, n, ⟨L, vm, X, N, eT, hw, hS⟩, hk, hn, (fun _ => rfl), hQ, fun fs q => X.returnOut K.1 K.2.2.2.1 (hb K.2.1 hd) q⟩
theorem own_met {y : MethodName} {ws : List Cond} {rm : Room} {as' : Array Value} (hpn : plainFor y = true)
    (body : ∀ (p : Program) (e : Env) (s : State) (m : MethodId) (below : List Frame) (meth : Method) (c : Code), own_Cx p s m meth c Z y.cls y.name bytes maxL ret → own_G w p l e rm s m as' below meth c Z Q h 0 0 (entryFrame m as' maxL)) :
    own_Met w l Z y bytes maxL ret ws rm as' h Q := by
  refine MetFree.of_bodySF hpn hisR ?_
  intro p e s m args below meth c s₁ Bd hml0 hP hK
  obtain ⟨rfl, hZ, hh⟩ := hP
  have X0 : Stand p l e rm s m args below meth c s₁ [] 0 0 := Stand.of_body Bd
  have e0 : s₁.heap = h := by rw [← hh, Bd.state]; rfl
  have hlk : meth.locks = false := BodyLoose.notSynchronized Bd
  obtain ⟨T', v, h', k', n', ⟨L, vm, X, N, eT, hw, hS⟩, r1, r2, r3, r4, r5⟩ := body p e s m below meth c ⟨Bd.exec, Bd.bytes, hml0, Bd.returns, hlk, hZ, findClass_of_methodNamed Bd.named, (name_of_methodNamed Bd.named Bd.method).1⟩ s₁
    ⟨[], s.vm, X0, Fr.nil _, e0, fun _ => rfl, (State.WarmedH.refl s).since _⟩
  have hgr : h.size ≤ h'.size := by rw [← eT, ← hh]; exact X.same.2.1
  cases w with
  | false =>
    obtain rfl := hw rfl
    obtain ⟨fs, hr, hrun, hended, hW, hsame⟩ := Stand.leave (s := s) X r3
    exact ⟨_, _, r5 fs hr, hrun, hended, v, L, rfl, ⟨by show Q v T'.heap; rw [eT]; exact r4, N, by show h.size ≤ T'.heap.size; rw [eT]; exact hgr⟩, ⟨_, rfl⟩, hW, hsame.mono r1 r2⟩
  | true =>
    obtain ⟨fs, hr, hrun, hended, q1, q2, q3, q4⟩ := Stand.leaveW X hS (Nat.le_of_eq (congrArg Array.size eT.symm)) r3
    exact ⟨_, _, r5 fs hr, hrun, hended, v, L, rfl, ⟨by show Q v T'.heap; rw [eT]; exact r4, N, by show h.size ≤ T'.heap.size; rw [eT]; exact hgr⟩, q1, q2, q3, q4.mono r1 r2⟩
theorem own_list_getD {vs : List Value} {cl : Cell} (e : cl.slots.toList = vs) (d : Value) {i : Nat} (hi : i < cl.slots.size) : cl.slots[i]? = some (vs.getD i d) := by
  subst e
  rw [List.getD_eq_getElem?_getD, Array.getElem?_toList, Array.getElem?_eq_getElem hi]; rfl
theorem own_arv {a : Addr} {ty : FieldType} {ad : String} {vs : List Value} (F : own_AK Z h (a, ty, ad, vs)) (hl : vs.length < 2147483648) : ∃ (kc : ClassId) (z : Int32), z.toNatClampNeg = vs.length ∧ ¬ z < 0 ∧ Arv Z h a kc ty z vs .null := by
  obtain ⟨cl, A, e1, e3, -, -⟩ := F
  have e1' : cl.slots.toList = vs := e1
  have hsz : cl.slots.size = vs.length := by rw [← Array.length_toList, e1']
  have q := len_toInt (n := vs.length) (by omega)
  have z0 : ¬ vs.length.toInt32 < 0 := by rw [Int32.lt_iff_toInt_lt, q, show (0 : Int32).toInt = 0 from rfl]; omega
  have zc : vs.length.toInt32.toNatClampNeg = vs.length := by simp only [Int32.toNatClampNeg, q]; rfl
  refine ⟨cl.cls, vs.length.toInt32, zc, z0, cl, A, rfl, by rw [zc]; exact hsz, z0, fun i hi => own_list_getD e1' _ hi, fun i hi => ?_⟩
  have hi' : i < vs.length := by omega
  rw [List.getD_eq_getElem?_getD, List.getElem?_eq_getElem hi']
  exact e3 _ (List.getElem_mem hi')
theorem own_of_arv {a : Addr} {ty : FieldType} {vs : List Value} {kc : ClassId} {z : Int32} {d : Value} (F : Arv Z h a kc ty z vs d) (hz : z.toNatClampNeg = vs.length) : ∃ cl : Cell, Arr Z h a cl ty ∧ cl.cls = kc ∧ cl.slots.toList = vs ∧ ∀ v ∈ vs, fits ty v = true := by
  obtain ⟨cl, A, e1, e2, -, H, G⟩ := F
  have hsz : cl.slots.size = vs.length := e2.trans hz
  refine ⟨cl, A, e1, ?_, fun v hv => ?_⟩
  · apply List.ext_getElem?
    intro i
    rw [Array.getElem?_toList]
    by_cases hi : i < cl.slots.size
    · rw [H i hi, List.getD_eq_getElem?_getD, List.getElem?_eq_getElem (by omega)]; rfl
    · rw [Array.getElem?_eq_none (by omega), List.getElem?_eq_none (by omega)]
  · obtain ⟨i, hi, rfl⟩ := List.getElem_of_mem hv
    have := G i (by omega)
    rw [List.getD_eq_getElem?_getD, List.getElem?_eq_getElem hi] at this
    exact this
theorem own_H.keepA (H : own_H Z h os as) {b : Addr} {ty : FieldType} {ad : String} {vd vd' : List Value} {i : Nat} (hb : as[i]? = some (b, ty, ad, vd)) (Kp : Keep h h' [b]) (F : ∃ cl : Cell, Arr Z h' b cl ty ∧ cl.slots.toList = vd' ∧ ∀ v ∈ vd', fits ty v = true) (hty : ∀ C, ty ≠ .object C) : own_H Z h' os (as.set i (b, ty, ad, vd')) := by
  have nb := (H.2.2.1 _ (own_mem hb)).1
  have hlen := (List.getElem?_eq_some_iff.mp hb).1
  refine ⟨⟨Nat.le_trans H.1.1 Kp.1, fun x cx hx => Kp.2.1 x cx (H.1.2 x cx hx) fun q => ?_⟩, fun o ho => ?_, fun y hy => ?_, ?_⟩
  · cases List.mem_singleton.mp q; exact absurd (Array.getElem?_eq_some_iff.mp hx).1 (Nat.not_lt.mpr nb)
  · obtain ⟨n1, E, F', Pw⟩ := H.2.1 o ho
    exact ⟨n1, E.keep Kp, fun f hf => (F' f hf).keep Kp fun q => H.neOA ho (own_mem hb) (List.mem_singleton.mp q), Pw⟩
  · obtain ⟨j, hj⟩ := List.mem_iff_getElem?.mp hy
    rw [List.getElem?_set] at hj
    by_cases ij : i = j
    · subst ij
      rw [if_pos rfl, if_pos hlen] at hj
      obtain rfl := Option.some.inj hj
      obtain ⟨cl, A, e1, e2⟩ := F
      obtain ⟨-, cl0, -, -, -, e4, -⟩ := H.2.2.1 _ (own_mem hb)
      exact ⟨nb, cl, A, e1, e2, fun q => (e4 q).keep Kp, fun C hC => absurd hC (hty C)⟩
    · rw [if_neg ij] at hj
      obtain ⟨n1, cl, h1, h2, h3, h4, h5⟩ := H.2.2.1 _ (own_mem hj)
      exact ⟨n1, cl, ⟨Kp.2.1 _ _ h1.1 fun q => H.neAA hj hb (Ne.symm ij) (List.mem_singleton.mp q), h1.2⟩, h2, h3, fun q => (h4 q).keep Kp, h5⟩
  · rw [own_set_map (f := fun z => z.1) (x' := (b, ty, ad, vd')) hb rfl]; exact H.2.2.2
theorem own_range_take {vs : List Value} {sq nq : Nat} {d : Value} (hq : sq + nq ≤ vs.length) : (vs.drop sq).take nq = (List.range nq).map fun i => vs.getD (sq + i) d := by
  apply List.ext_getElem?
  intro i
  by_cases hi : i < nq
  · rw [List.getElem?_take_of_lt hi, List.getElem?_drop, List.getElem?_map, List.getElem?_range hi, Option.map_some, List.getD_eq_getElem?_getD, List.getElem?_eq_getElem (by omega)]; rfl
  · rw [List.getElem?_eq_none (by simp; omega), List.getElem?_eq_none (by simp; omega)]
theorem own_arraycopy (K : own_Cx p s m meth c Z own nm bytes maxL ret) {i ia ib : Nat} {a b : Addr} {ty : FieldType} {ada adb : String} {vs vd : List Value} {sp dp nn : Int32} {sq dq nq : Nat} (hd : own_D bytes pc (.invokestatic i) 3 pc') (w1 : (Cond.methodLink own i Jvm.Stand.acN).before a0 Z = true) (w2 : (Cond.native Jvm.Stand.acN).before a0 Z = true) (w3 : (Cond.static Jvm.Stand.acN).before a0 Z = true) (w4 : (Cond.initialized "java/lang/System").before a0 Z = true) (H : own_H Z h os as)
    (ha : as[ia]? = some (a, ty, ada, vs)) (hb' : as[ib]? = some (b, ty, adb, vd)) (hty : refKind ty = false) (hto : ∀ C, ty ≠ .object C) (hsp : sp.toInt = (sq : Int)) (hdp : dp.toInt = (dq : Int)) (hnn : nn.toInt = (nq : Int)) (h4 : sq + nq ≤ vs.length) (h5 : dq + nq ≤ vd.length) (hvl : vs.length < 2147483648) (hvd : vd.length < 2147483648) (hsz : Ls.size = maxL) (hf : 1 ≤ R.frames) {W : Nat} (hW : (st.map fun v => v.category).sum ≤ W) (hlo : W + (nativeFrameWords "java/lang/System" "arraycopy" 5 + 11) ≤ R.locals)
    (hr : ∀ h', own_H Z h' os (as.set ib (b, ty, adb, vd.take dq ++ (vs.drop sq).take nq ++ vd.drop (dq + nq))) → own_G w p l e R s m args below meth c Z Q h' k n (mkF m pc' Ls st)) : own_G w p l e R s m args below meth c Z Q h k n (mkF m pc Ls (.int nn :: .int dp :: .ref b :: .int sp :: .ref a :: st)) := by
  obtain ⟨hd, rfl⟩ := hd
  refine own_step K (P := fun h' => own_H Z h' os (as.set ib (b, ty, adb, vd.take dq ++ (vs.drop sq).take nq ++ vd.drop (dq + nq)))) (fun X hZ hw eT N => ?_) hr
  obtain ⟨ka, za, qa1, qa2, A⟩ := own_arv (H.2.2.1 _ (own_mem ha)).2 hvl
  obtain ⟨kb, zb, qb1, qb2, B⟩ := own_arv (H.2.2.1 _ (own_mem hb')).2 hvd
  have i1 := own_idx hsp
  have i2 := own_idx hdp
  have i3 := own_idx hnn
  have neg : ∀ {x : Int32} {q : Nat}, x.toInt = (q : Int) → ¬ x < 0 := fun {x q} e => by rw [Int32.lt_iff_toInt_lt, e, show (0 : Int32).toInt = 0 from rfl]; omega
  obtain ⟨T', h', L, X', e', N', Kp, A', st⟩ := cpA X K.1 hZ hw w1 w2 w3 w4 eT A B (Or.inl ⟨rfl, hty⟩) (neg hsp) (neg hdp) (neg hnn) (by rw [i1, i3, qa1]; exact h4) (by rw [i2, i3, qb1]; exact h5) (by rw [i1, i3]) (by rw [i2, i3]; exact h5) N (H.2.2.1 _ (own_mem hb')).1 (g := mkF m pc Ls (.int nn :: .int dp :: .ref b :: .int sp :: .ref a :: st)) rfl (hsz.trans K.2.2.1.symm) rfl (hb K.2.1 hd) hf (W := W) (by show 2 * 0 + _ ≤ W; simpa using hW) hlo
  rw [i2, i3, ← own_range_take h4] at A'
  obtain ⟨cl, c1, -, c3, c4⟩ := own_of_arv A' (by rw [qb1]; simp; omega)
  exact ⟨T', h', L, X', N', e', Kp.1, H.keepA hb' Kp ⟨cl, c1, c3, c4⟩ hto, st⟩
theorem own_cast {g g' : JFrame} (q : g = g') (hr : own_G w p l e R s m args below meth c Z Q h k n g') : own_G w p l e R s m args below meth c Z Q h k n g := q ▸ hr
theorem own_topI {x x' : Int32} (q : x = x') (hr : own_G w p l e R s m args below meth c Z Q h k n (mkF m pc Ls (.int x' :: st))) : own_G w p l e R s m args below meth c Z Q h k n (mkF m pc Ls (.int x :: st)) := q ▸ hr
theorem own_topL {x x' : Int64} (q : x = x') (hr : own_G w p l e R s m args below meth c Z Q h k n (mkF m pc Ls (.long x' :: st))) : own_G w p l e R s m args below meth c Z Q h k n (mkF m pc Ls (.long x :: st)) := q ▸ hr
theorem own_topD {x x' : UInt64} (q : x = x') (hr : own_G w p l e R s m args below meth c Z Q h k n (mkF m pc Ls (.double x' :: st))) : own_G w p l e R s m args below meth c Z Q h k n (mkF m pc Ls (.double x :: st)) := q ▸ hr
theorem own_H.perm (H : own_H Z h os as) (po : os.Perm os') (pa : as.Perm as') : own_H Z h os' as' :=
  ⟨H.1, fun o ho => H.2.1 o (po.mem_iff.mpr ho), fun a ha => H.2.2.1 a (pa.mem_iff.mpr ha), ((po.map _).append (pa.map _)).nodup_iff.mp H.2.2.2⟩
theorem own_front {α : Type} {L : List α} {x : α} : ∀ {i : Nat}, L[i]? = some x → L.Perm (x :: L.eraseIdx i) := by
  induction L with
  | nil => intro i hx; cases hx
  | cons y L ih =>
    intro i hx
    cases i with
    | zero => cases hx; exact List.Perm.refl _
    | succ i =>
      have q := ih (i := i) (by simpa using hx)
      exact ((q.cons y).trans (List.Perm.swap x y _))
theorem own_H.frontO (H : own_H Z h os as) (i : Nat) {x : own_O} (hx : os[i]? = some x) : own_H Z h (x :: os.eraseIdx i) as := H.perm (own_front hx) (List.Perm.refl _)
theorem own_H.frontA (H : own_H Z h os as) (i : Nat) {x : own_A} (hx : as[i]? = some x) : own_H Z h os (x :: as.eraseIdx i) := H.perm (List.Perm.refl _) (own_front hx)
end OwnKit
end Jvm.RoadKit
namespace Jvm.RoadKit
open Sem ClassFile Op Lib Jvm.Stand Jvm.Free Jvm.LawKit
section OwnRef
variable {w : Bool} {p : Program} {l : Launch} {e : Env} {R : Room} {s : State} {m : MethodId} {args : Array Value} {below : List Frame} {meth : Method} {c : Code} {Z : State} {a0 : Array Value} {own nm : String} {bytes : ByteArray} {maxL : Nat} {ret : Option FieldType} {Q : Option Value → Heap → Prop} {h h' : Heap} {k n k' n' : Nat} {pc pc' pcT : Nat} {Ls Ls' : Array Slot} {st rest : List Value} {os os' : List own_O} {as as' : List own_A} {g g' : JFrame} {tyR : FieldType}
theorem own_anewarray (K : own_Cx p s m meth c Z own nm bytes maxL ret) {i : Nat} {C : String} {N : Int32} {q : Nat} {ad : String} {vs : List Value} (hd : own_D bytes pc (.anewarray i) 3 pc') (w1 : (Cond.classLink own i C).before a0 Z = true) (w2 : (Cond.arrayOver (.object C)).before a0 Z = true) (H : own_H Z h os as) (hN : N.toInt = (q : Int)) (had : "[" ++ (FieldType.object C).toString = ad) (hvs : vs = List.replicate q .null) (hq : q * 8 ≤ 536870912) (hc : k + 1 ≤ R.cells) (hl : n + q ≤ R.slots)
    (hr : ∀ h' a, own_H Z h' os ((a, .object C, ad, vs) :: as) → own_G w p l e R s m args below meth c Z Q h' (k + 1) (n + q) (mkF m pc' Ls (.ref a :: st))) : own_G w p l e R s m args below meth c Z Q h k n (mkF m pc Ls (.int N :: st)) := by
  obtain ⟨hd, rfl⟩ := hd
  refine own_step K (P := fun h' => own_H Z h' os ((h.size, .object C, ad, vs) :: as)) (fun X hZ hw eT N => ?_) (fun h' H' => hr h' _ H')
  have hNq := own_idx hN
  obtain ⟨T', h', cA, X', e', E, A, Ex, O, st⟩ := newRE X K.1 hZ hw w1 w2 eT (g := mkF m pc Ls (.int _ :: st)) rfl (hb K.2.1 hd) rfl (by rw [Int32.lt_iff_toInt_lt, hN, show (0 : Int32).toInt = 0 from rfl]; omega) (cap := q) (Nat.le_of_eq hNq) hq hc hl had
  refine ⟨T', h', _, X', N, e', E.1, H.addA E ⟨_, A, ?_, ?_, fun _ => Ex, fun D hD _ => ?_⟩, st⟩
  · show (newA cA (.object C) _).slots.toList = vs
    simp [newA, hNq, hvs, defaultValue]
  · intro v hv
    rw [show v = Value.null from List.eq_of_mem_replicate (hvs ▸ hv)]; rfl
  · cases hD; exact O
theorem own_aastoreN (K : own_Cx p s m meth c Z own nm bytes maxL ret) {i q : Nat} {a : Addr} {ad C : String} {vs : List Value} {j : Int32} (hd : own_D bytes pc .aastore 1 pc') (H : own_H Z h os as) (ha : as[i]? = some (a, .object C, ad, vs)) (hj : j.toInt = (q : Int)) (hq : q < vs.length) (hr : ∀ h', own_H Z h' os (as.set i (a, .object C, ad, vs.set q .null)) → own_G w p l e R s m args below meth c Z Q h' k n (mkF m pc' Ls st)) : own_G w p l e R s m args below meth c Z Q h k n (mkF m pc Ls (.null :: .int j :: .ref a :: st)) := by
  obtain ⟨hd, rfl⟩ := hd
  obtain ⟨na, cl, A, e1, -⟩ := H.2.2.1 _ (own_mem ha)
  have hsz : cl.slots.size = vs.length := by rw [← Array.length_toList]; exact congrArg List.length e1
  refine own_step K (P := fun h' => own_H Z h' os (as.set i (a, .object C, ad, vs.set q .null))) (fun X hZ _ eT N => ?_) hr
  obtain ⟨T', h', X', e', W, st⟩ := stR X K.1 hZ eT A (by rw [hsz]; exact own_in hj hq) rfl (Or.inl rfl) (g := mkF m pc Ls (.null :: .int j :: .ref a :: st)) rfl rfl (hb K.2.1 hd)
  exact ⟨T', h', _, X', Fr.snoc X' N na, e', Nat.le_of_eq (Wr.size W).symm, H.wrA ha hq (rfl) (by rw [own_idx hj] at W; exact W), st⟩
theorem own_aastoreR (K : own_Cx p s m meth c Z own nm bytes maxL ret) {i q : Nat} {a b : Addr} {ad C : String} {vs : List Value} {j : Int32} (hd : own_D bytes pc .aastore 1 pc') (H : own_H Z h os as) (ha : as[i]? = some (a, .object C, ad, vs)) (hne : ad ≠ "") (I : Ins Z h b C true) (hj : j.toInt = (q : Int)) (hq : q < vs.length) (hr : ∀ h', own_H Z h' os (as.set i (a, .object C, ad, vs.set q (.ref b))) → own_G w p l e R s m args below meth c Z Q h' k n (mkF m pc' Ls st)) : own_G w p l e R s m args below meth c Z Q h k n (mkF m pc Ls (.ref b :: .int j :: .ref a :: st)) := by
  obtain ⟨hd, rfl⟩ := hd
  obtain ⟨na, cl, A, e1, -, -, O⟩ := H.2.2.1 _ (own_mem ha)
  have hsz : cl.slots.size = vs.length := by rw [← Array.length_toList]; exact congrArg List.length e1
  refine own_step K (P := fun h' => own_H Z h' os (as.set i (a, .object C, ad, vs.set q (.ref b)))) (fun X hZ _ eT N => ?_) hr
  obtain ⟨T', h', X', e', W, st⟩ := stR X K.1 hZ eT A (by rw [hsz]; exact own_in hj hq) rfl (Sto.of A (O C rfl hne) I) (g := mkF m pc Ls (.ref b :: .int j :: .ref a :: st)) rfl rfl (hb K.2.1 hd)
  exact ⟨T', h', _, X', Fr.snoc X' N na, e', Nat.le_of_eq (Wr.size W).symm, H.wrA ha hq (rfl) (by rw [own_idx hj] at W; exact W), st⟩
end OwnRef
end Jvm.RoadKit
namespace Jvm.Pilot.@@N@@
open Jvm Jvm.ClassFile Sem Op Lib Jvm.Free Jvm.Stand Jvm.LawKit Jvm.RoadKit Bundle Jvm.Pilot.@@N@@.Jvm.D
def own_Z (Z : State) (a0 : Array Value) : Prop := ∀ d ∈ tables_1, d.before a0 Z = true
theorem own_w0 {Z : State} {a0 : Array Value} (hw : own_Z Z a0) : (Jvm.Cond.arrayClass Jvm.ClassFile.FieldType.int).before a0 Z = true := hw _ (List.mem_of_getElem? (i := 0) rfl)
theorem own_w1 {Z : State} {a0 : Array Value} (hw : own_Z Z a0) : (Jvm.Cond.methodLink "com/example/slotwise/slotwise/DeparturesPollPinLaw" (15 : Nat) ({ cls := "com/example/slotwise/slotwise/DeparturesPollPinLaw", name := "field", desc := "(JI)I" } : Jvm.MethodName)).before a0 Z = true := hw _ (List.mem_of_getElem? (i := 1) rfl)
theorem own_w2 {Z : State} {a0 : Array Value} (hw : own_Z Z a0) : (Jvm.Cond.static ({ cls := "com/example/slotwise/slotwise/DeparturesPollPinLaw", name := "field", desc := "(JI)I" } : Jvm.MethodName)).before a0 Z = true := hw _ (List.mem_of_getElem? (i := 2) rfl)
theorem own_w3 {Z : State} {a0 : Array Value} (hw : own_Z Z a0) : (Jvm.Cond.initialized "com/example/slotwise/slotwise/DeparturesPollPinLaw").before a0 Z = true := hw _ (List.mem_of_getElem? (i := 3) rfl)
theorem own_w4 {Z : State} {a0 : Array Value} (hw : own_Z Z a0) : (Jvm.Cond.code ({ cls := "com/example/slotwise/slotwise/DeparturesPollPinLaw", name := "field", desc := "(JI)I" } : Jvm.MethodName) method_2_code (3 : Nat) (Option.some Jvm.ClassFile.FieldType.int)).before a0 Z = true := hw _ (List.mem_of_getElem? (i := 4) rfl)
theorem own_w5 {Z : State} {a0 : Array Value} (hw : own_Z Z a0) : (Jvm.Cond.constantLong "com/example/slotwise/slotwise/DeparturesPollPinLaw" (7 : Nat) (255 : Int64)).before a0 Z = true := hw _ (List.mem_of_getElem? (i := 5) rfl)
theorem own_w6 {Z : State} {a0 : Array Value} (hw : own_Z Z a0) : (Jvm.Cond.classLink "com/example/slotwise/slotwise/DeparturesPollPinLaw" (21 : Nat) "com/example/slotwise/slotwise/Simulation$Connection").before a0 Z = true := hw _ (List.mem_of_getElem? (i := 6) rfl)
theorem own_w7 {Z : State} {a0 : Array Value} (hw : own_Z Z a0) : (Jvm.Cond.arrayOver (Jvm.ClassFile.FieldType.object "com/example/slotwise/slotwise/Simulation$Connection")).before a0 Z = true := hw _ (List.mem_of_getElem? (i := 7) rfl)
theorem own_w8 {Z : State} {a0 : Array Value} (hw : own_Z Z a0) : (Jvm.Cond.instantiable "com/example/slotwise/slotwise/Simulation$Connection" (4 : Nat)).before a0 Z = true := hw _ (List.mem_of_getElem? (i := 8) rfl)
theorem own_w9 {Z : State} {a0 : Array Value} (hw : own_Z Z a0) : (Jvm.Cond.initialized "com/example/slotwise/slotwise/Simulation$Connection").before a0 Z = true := hw _ (List.mem_of_getElem? (i := 9) rfl)
theorem own_w10 {Z : State} {a0 : Array Value} (hw : own_Z Z a0) : (Jvm.Cond.methodLink "com/example/slotwise/slotwise/DeparturesPollPinLaw" (23 : Nat) ({ cls := "com/example/slotwise/slotwise/Simulation$Connection", name := "<init>", desc := "(DLcom/example/slotwise/slotwise/Route;II)V" } : Jvm.MethodName)).before a0 Z = true := hw _ (List.mem_of_getElem? (i := 10) rfl)
theorem own_w11 {Z : State} {a0 : Array Value} (hw : own_Z Z a0) : (Jvm.Cond.instanceMethod ({ cls := "com/example/slotwise/slotwise/Simulation$Connection", name := "<init>", desc := "(DLcom/example/slotwise/slotwise/Route;II)V" } : Jvm.MethodName)).before a0 Z = true := hw _ (List.mem_of_getElem? (i := 11) rfl)
theorem own_w12 {Z : State} {a0 : Array Value} (hw : own_Z Z a0) : (Jvm.Cond.code ({ cls := "com/example/slotwise/slotwise/Simulation$Connection", name := "<init>", desc := "(DLcom/example/slotwise/slotwise/Route;II)V" } : Jvm.MethodName) prog_33_method_1_code (6 : Nat) (Option.none : Option Jvm.ClassFile.FieldType)).before a0 Z = true := hw _ (List.mem_of_getElem? (i := 12) rfl)
theorem own_w13 {Z : State} {a0 : Array Value} (hw : own_Z Z a0) : (Jvm.Cond.methodLink "com/example/slotwise/slotwise/Simulation$Connection" (1 : Nat) ({ cls := "java/lang/Record", name := "<init>", desc := "()V" } : Jvm.MethodName)).before a0 Z = true := hw _ (List.mem_of_getElem? (i := 13) rfl)
theorem own_w14 {Z : State} {a0 : Array Value} (hw : own_Z Z a0) : (Jvm.Cond.instanceMethod ({ cls := "java/lang/Record", name := "<init>", desc := "()V" } : Jvm.MethodName)).before a0 Z = true := hw _ (List.mem_of_getElem? (i := 14) rfl)
theorem own_w16 {Z : State} {a0 : Array Value} (hw : own_Z Z a0) : (Jvm.Cond.initialized "java/lang/Record").before a0 Z = true := hw _ (List.mem_of_getElem? (i := 16) rfl)
theorem own_w17 {Z : State} {a0 : Array Value} (hw : own_Z Z a0) : (Jvm.Cond.code ({ cls := "java/lang/Record", name := "<init>", desc := "()V" } : Jvm.MethodName) jdk_30_method_1_code (1 : Nat) (Option.none : Option Jvm.ClassFile.FieldType)).before a0 Z = true := hw _ (List.mem_of_getElem? (i := 17) rfl)
theorem own_w18 {Z : State} {a0 : Array Value} (hw : own_Z Z a0) : (Jvm.Cond.methodLink "java/lang/Record" (1 : Nat) ({ cls := "java/lang/Object", name := "<init>", desc := "()V" } : Jvm.MethodName)).before a0 Z = true := hw _ (List.mem_of_getElem? (i := 18) rfl)
theorem own_w19 {Z : State} {a0 : Array Value} (hw : own_Z Z a0) : (Jvm.Cond.instanceMethod ({ cls := "java/lang/Object", name := "<init>", desc := "()V" } : Jvm.MethodName)).before a0 Z = true := hw _ (List.mem_of_getElem? (i := 19) rfl)
theorem own_w20 {Z : State} {a0 : Array Value} (hw : own_Z Z a0) : (Jvm.Cond.code ({ cls := "java/lang/Object", name := "<init>", desc := "()V" } : Jvm.MethodName) object_method_1_code (1 : Nat) (Option.none : Option Jvm.ClassFile.FieldType)).before a0 Z = true := hw _ (List.mem_of_getElem? (i := 20) rfl)
theorem own_w21 {Z : State} {a0 : Array Value} (hw : own_Z Z a0) : (Jvm.Cond.fieldLink "com/example/slotwise/slotwise/Simulation$Connection" (7 : Nat) "com/example/slotwise/slotwise/Simulation$Connection" "departure" "D").before a0 Z = true := hw _ (List.mem_of_getElem? (i := 21) rfl)
theorem own_w22 {Z : State} {a0 : Array Value} (hw : own_Z Z a0) : (Jvm.Cond.laysFinal "com/example/slotwise/slotwise/Simulation$Connection" "com/example/slotwise/slotwise/Simulation$Connection" "departure" "D").before a0 Z = true := hw _ (List.mem_of_getElem? (i := 22) rfl)
theorem own_w23 {Z : State} {a0 : Array Value} (hw : own_Z Z a0) : (Jvm.Cond.fieldLink "com/example/slotwise/slotwise/Simulation$Connection" (13 : Nat) "com/example/slotwise/slotwise/Simulation$Connection" "route" "Lcom/example/slotwise/slotwise/Route;").before a0 Z = true := hw _ (List.mem_of_getElem? (i := 23) rfl)
theorem own_w24 {Z : State} {a0 : Array Value} (hw : own_Z Z a0) : (Jvm.Cond.laysFinal "com/example/slotwise/slotwise/Simulation$Connection" "com/example/slotwise/slotwise/Simulation$Connection" "route" "Lcom/example/slotwise/slotwise/Route;").before a0 Z = true := hw _ (List.mem_of_getElem? (i := 24) rfl)
theorem own_w25 {Z : State} {a0 : Array Value} (hw : own_Z Z a0) : (Jvm.Cond.fieldLink "com/example/slotwise/slotwise/Simulation$Connection" (17 : Nat) "com/example/slotwise/slotwise/Simulation$Connection" "first" "I").before a0 Z = true := hw _ (List.mem_of_getElem? (i := 25) rfl)
theorem own_w26 {Z : State} {a0 : Array Value} (hw : own_Z Z a0) : (Jvm.Cond.laysFinal "com/example/slotwise/slotwise/Simulation$Connection" "com/example/slotwise/slotwise/Simulation$Connection" "first" "I").before a0 Z = true := hw _ (List.mem_of_getElem? (i := 26) rfl)
theorem own_w27 {Z : State} {a0 : Array Value} (hw : own_Z Z a0) : (Jvm.Cond.fieldLink "com/example/slotwise/slotwise/Simulation$Connection" (21 : Nat) "com/example/slotwise/slotwise/Simulation$Connection" "size" "I").before a0 Z = true := hw _ (List.mem_of_getElem? (i := 27) rfl)
theorem own_w28 {Z : State} {a0 : Array Value} (hw : own_Z Z a0) : (Jvm.Cond.laysFinal "com/example/slotwise/slotwise/Simulation$Connection" "com/example/slotwise/slotwise/Simulation$Connection" "size" "I").before a0 Z = true := hw _ (List.mem_of_getElem? (i := 28) rfl)
theorem own_w30 {Z : State} {a0 : Array Value} (hw : own_Z Z a0) : (Jvm.Cond.classLink "com/example/slotwise/slotwise/DeparturesPollPinLaw" (26 : Nat) "com/example/slotwise/slotwise/Departures").before a0 Z = true := hw _ (List.mem_of_getElem? (i := 30) rfl)
theorem own_w31 {Z : State} {a0 : Array Value} (hw : own_Z Z a0) : (Jvm.Cond.instantiable "com/example/slotwise/slotwise/Departures" (3 : Nat)).before a0 Z = true := hw _ (List.mem_of_getElem? (i := 31) rfl)
theorem own_w32 {Z : State} {a0 : Array Value} (hw : own_Z Z a0) : (Jvm.Cond.initialized "com/example/slotwise/slotwise/Departures").before a0 Z = true := hw _ (List.mem_of_getElem? (i := 32) rfl)
theorem own_w33 {Z : State} {a0 : Array Value} (hw : own_Z Z a0) : (Jvm.Cond.methodLink "com/example/slotwise/slotwise/DeparturesPollPinLaw" (28 : Nat) ({ cls := "com/example/slotwise/slotwise/Departures", name := "<init>", desc := "()V" } : Jvm.MethodName)).before a0 Z = true := hw _ (List.mem_of_getElem? (i := 33) rfl)
theorem own_w34 {Z : State} {a0 : Array Value} (hw : own_Z Z a0) : (Jvm.Cond.instanceMethod ({ cls := "com/example/slotwise/slotwise/Departures", name := "<init>", desc := "()V" } : Jvm.MethodName)).before a0 Z = true := hw _ (List.mem_of_getElem? (i := 34) rfl)
theorem own_w35 {Z : State} {a0 : Array Value} (hw : own_Z Z a0) : (Jvm.Cond.code ({ cls := "com/example/slotwise/slotwise/Departures", name := "<init>", desc := "()V" } : Jvm.MethodName) prog_10_method_1_code (1 : Nat) (Option.none : Option Jvm.ClassFile.FieldType)).before a0 Z = true := hw _ (List.mem_of_getElem? (i := 35) rfl)
theorem own_w36 {Z : State} {a0 : Array Value} (hw : own_Z Z a0) : (Jvm.Cond.methodLink "com/example/slotwise/slotwise/Departures" (1 : Nat) ({ cls := "java/lang/Object", name := "<init>", desc := "()V" } : Jvm.MethodName)).before a0 Z = true := hw _ (List.mem_of_getElem? (i := 36) rfl)
theorem own_w37 {Z : State} {a0 : Array Value} (hw : own_Z Z a0) : (Jvm.Cond.arrayClass Jvm.ClassFile.FieldType.double).before a0 Z = true := hw _ (List.mem_of_getElem? (i := 37) rfl)
theorem own_w38 {Z : State} {a0 : Array Value} (hw : own_Z Z a0) : (Jvm.Cond.fieldLink "com/example/slotwise/slotwise/Departures" (9 : Nat) "com/example/slotwise/slotwise/Departures" "times" "[D").before a0 Z = true := hw _ (List.mem_of_getElem? (i := 38) rfl)
theorem own_w39 {Z : State} {a0 : Array Value} (hw : own_Z Z a0) : (Jvm.Cond.lays "com/example/slotwise/slotwise/Departures" "com/example/slotwise/slotwise/Departures" "times" "[D").before a0 Z = true := hw _ (List.mem_of_getElem? (i := 39) rfl)
theorem own_w40 {Z : State} {a0 : Array Value} (hw : own_Z Z a0) : (Jvm.Cond.classLink "com/example/slotwise/slotwise/Departures" (13 : Nat) "com/example/slotwise/slotwise/Simulation$Connection").before a0 Z = true := hw _ (List.mem_of_getElem? (i := 40) rfl)
theorem own_w41 {Z : State} {a0 : Array Value} (hw : own_Z Z a0) : (Jvm.Cond.fieldLink "com/example/slotwise/slotwise/Departures" (15 : Nat) "com/example/slotwise/slotwise/Departures" "connections" "[Lcom/example/slotwise/slotwise/Simulation$Connection;").before a0 Z = true := hw _ (List.mem_of_getElem? (i := 41) rfl)
theorem own_w42 {Z : State} {a0 : Array Value} (hw : own_Z Z a0) : (Jvm.Cond.lays "com/example/slotwise/slotwise/Departures" "com/example/slotwise/slotwise/Departures" "connections" "[Lcom/example/slotwise/slotwise/Simulation$Connection;").before a0 Z = true := hw _ (List.mem_of_getElem? (i := 42) rfl)
theorem own_w43 {Z : State} {a0 : Array Value} (hw : own_Z Z a0) : (Jvm.Cond.methodLink "com/example/slotwise/slotwise/DeparturesPollPinLaw" (29 : Nat) ({ cls := "com/example/slotwise/slotwise/Departures", name := "add", desc := "(Lcom/example/slotwise/slotwise/Simulation$Connection;)V" } : Jvm.MethodName)).before a0 Z = true := hw _ (List.mem_of_getElem? (i := 43) rfl)
theorem own_w44 {Z : State} {a0 : Array Value} (hw : own_Z Z a0) : (Jvm.Cond.declares ({ cls := "com/example/slotwise/slotwise/Departures", name := "add", desc := "(Lcom/example/slotwise/slotwise/Simulation$Connection;)V" } : Jvm.MethodName)).before a0 Z = true := hw _ (List.mem_of_getElem? (i := 44) rfl)
theorem own_w45 {Z : State} {a0 : Array Value} (hw : own_Z Z a0) : (Jvm.Cond.instanceMethod ({ cls := "com/example/slotwise/slotwise/Departures", name := "add", desc := "(Lcom/example/slotwise/slotwise/Simulation$Connection;)V" } : Jvm.MethodName)).before a0 Z = true := hw _ (List.mem_of_getElem? (i := 45) rfl)
theorem own_w46 {Z : State} {a0 : Array Value} (hw : own_Z Z a0) : (Jvm.Cond.selects "com/example/slotwise/slotwise/Departures" ({ cls := "com/example/slotwise/slotwise/Departures", name := "add", desc := "(Lcom/example/slotwise/slotwise/Simulation$Connection;)V" } : Jvm.MethodName) ({ cls := "com/example/slotwise/slotwise/Departures", name := "add", desc := "(Lcom/example/slotwise/slotwise/Simulation$Connection;)V" } : Jvm.MethodName)).before a0 Z = true := hw _ (List.mem_of_getElem? (i := 46) rfl)
theorem own_w47 {Z : State} {a0 : Array Value} (hw : own_Z Z a0) : (Jvm.Cond.code ({ cls := "com/example/slotwise/slotwise/Departures", name := "add", desc := "(Lcom/example/slotwise/slotwise/Simulation$Connection;)V" } : Jvm.MethodName) prog_10_method_4_code (6 : Nat) (Option.none : Option Jvm.ClassFile.FieldType)).before a0 Z = true := hw _ (List.mem_of_getElem? (i := 47) rfl)
theorem own_w48 {Z : State} {a0 : Array Value} (hw : own_Z Z a0) : (Jvm.Cond.fieldLink "com/example/slotwise/slotwise/Departures" (19 : Nat) "com/example/slotwise/slotwise/Departures" "size" "I").before a0 Z = true := hw _ (List.mem_of_getElem? (i := 48) rfl)
theorem own_w49 {Z : State} {a0 : Array Value} (hw : own_Z Z a0) : (Jvm.Cond.lays "com/example/slotwise/slotwise/Departures" "com/example/slotwise/slotwise/Departures" "size" "I").before a0 Z = true := hw _ (List.mem_of_getElem? (i := 49) rfl)
theorem own_w50 {Z : State} {a0 : Array Value} (hw : own_Z Z a0) : (Jvm.Cond.methodLink "com/example/slotwise/slotwise/Departures" (33 : Nat) ({ cls := "com/example/slotwise/slotwise/Simulation$Connection", name := "departure", desc := "()D" } : Jvm.MethodName)).before a0 Z = true := hw _ (List.mem_of_getElem? (i := 50) rfl)
theorem own_w51 {Z : State} {a0 : Array Value} (hw : own_Z Z a0) : (Jvm.Cond.declares ({ cls := "com/example/slotwise/slotwise/Simulation$Connection", name := "departure", desc := "()D" } : Jvm.MethodName)).before a0 Z = true := hw _ (List.mem_of_getElem? (i := 51) rfl)
theorem own_w52 {Z : State} {a0 : Array Value} (hw : own_Z Z a0) : (Jvm.Cond.instanceMethod ({ cls := "com/example/slotwise/slotwise/Simulation$Connection", name := "departure", desc := "()D" } : Jvm.MethodName)).before a0 Z = true := hw _ (List.mem_of_getElem? (i := 52) rfl)
theorem own_w53 {Z : State} {a0 : Array Value} (hw : own_Z Z a0) : (Jvm.Cond.selects "com/example/slotwise/slotwise/Simulation$Connection" ({ cls := "com/example/slotwise/slotwise/Simulation$Connection", name := "departure", desc := "()D" } : Jvm.MethodName) ({ cls := "com/example/slotwise/slotwise/Simulation$Connection", name := "departure", desc := "()D" } : Jvm.MethodName)).before a0 Z = true := hw _ (List.mem_of_getElem? (i := 53) rfl)
theorem own_w54 {Z : State} {a0 : Array Value} (hw : own_Z Z a0) : (Jvm.Cond.code ({ cls := "com/example/slotwise/slotwise/Simulation$Connection", name := "departure", desc := "()D" } : Jvm.MethodName) prog_33_method_5_code (1 : Nat) (Option.some Jvm.ClassFile.FieldType.double)).before a0 Z = true := hw _ (List.mem_of_getElem? (i := 54) rfl)
theorem own_w55 {Z : State} {a0 : Array Value} (hw : own_Z Z a0) : (Jvm.Cond.methodLink "com/example/slotwise/slotwise/DeparturesPollPinLaw" (33 : Nat) ({ cls := "com/example/slotwise/slotwise/Departures", name := "poll", desc := "()Lcom/example/slotwise/slotwise/Simulation$Connection;" } : Jvm.MethodName)).before a0 Z = true := hw _ (List.mem_of_getElem? (i := 55) rfl)
theorem own_w56 {Z : State} {a0 : Array Value} (hw : own_Z Z a0) : (Jvm.Cond.declares ({ cls := "com/example/slotwise/slotwise/Departures", name := "poll", desc := "()Lcom/example/slotwise/slotwise/Simulation$Connection;" } : Jvm.MethodName)).before a0 Z = true := hw _ (List.mem_of_getElem? (i := 56) rfl)
theorem own_w57 {Z : State} {a0 : Array Value} (hw : own_Z Z a0) : (Jvm.Cond.instanceMethod ({ cls := "com/example/slotwise/slotwise/Departures", name := "poll", desc := "()Lcom/example/slotwise/slotwise/Simulation$Connection;" } : Jvm.MethodName)).before a0 Z = true := hw _ (List.mem_of_getElem? (i := 57) rfl)
theorem own_w58 {Z : State} {a0 : Array Value} (hw : own_Z Z a0) : (Jvm.Cond.selects "com/example/slotwise/slotwise/Departures" ({ cls := "com/example/slotwise/slotwise/Departures", name := "poll", desc := "()Lcom/example/slotwise/slotwise/Simulation$Connection;" } : Jvm.MethodName) ({ cls := "com/example/slotwise/slotwise/Departures", name := "poll", desc := "()Lcom/example/slotwise/slotwise/Simulation$Connection;" } : Jvm.MethodName)).before a0 Z = true := hw _ (List.mem_of_getElem? (i := 58) rfl)
theorem own_w59 {Z : State} {a0 : Array Value} (hw : own_Z Z a0) : (Jvm.Cond.code ({ cls := "com/example/slotwise/slotwise/Departures", name := "poll", desc := "()Lcom/example/slotwise/slotwise/Simulation$Connection;" } : Jvm.MethodName) prog_10_method_5_code (8 : Nat) (Option.some (Jvm.ClassFile.FieldType.object "com/example/slotwise/slotwise/Simulation$Connection"))).before a0 Z = true := hw _ (List.mem_of_getElem? (i := 59) rfl)
theorem own_w60 {Z : State} {a0 : Array Value} (hw : own_Z Z a0) : (Jvm.Cond.methodLink "com/example/slotwise/slotwise/DeparturesPollPinLaw" (37 : Nat) ({ cls := "com/example/slotwise/slotwise/Departures", name := "isEmpty", desc := "()Z" } : Jvm.MethodName)).before a0 Z = true := hw _ (List.mem_of_getElem? (i := 60) rfl)
theorem own_w61 {Z : State} {a0 : Array Value} (hw : own_Z Z a0) : (Jvm.Cond.declares ({ cls := "com/example/slotwise/slotwise/Departures", name := "isEmpty", desc := "()Z" } : Jvm.MethodName)).before a0 Z = true := hw _ (List.mem_of_getElem? (i := 61) rfl)
theorem own_w62 {Z : State} {a0 : Array Value} (hw : own_Z Z a0) : (Jvm.Cond.instanceMethod ({ cls := "com/example/slotwise/slotwise/Departures", name := "isEmpty", desc := "()Z" } : Jvm.MethodName)).before a0 Z = true := hw _ (List.mem_of_getElem? (i := 62) rfl)
theorem own_w63 {Z : State} {a0 : Array Value} (hw : own_Z Z a0) : (Jvm.Cond.selects "com/example/slotwise/slotwise/Departures" ({ cls := "com/example/slotwise/slotwise/Departures", name := "isEmpty", desc := "()Z" } : Jvm.MethodName) ({ cls := "com/example/slotwise/slotwise/Departures", name := "isEmpty", desc := "()Z" } : Jvm.MethodName)).before a0 Z = true := hw _ (List.mem_of_getElem? (i := 63) rfl)
theorem own_w64 {Z : State} {a0 : Array Value} (hw : own_Z Z a0) : (Jvm.Cond.code ({ cls := "com/example/slotwise/slotwise/Departures", name := "isEmpty", desc := "()Z" } : Jvm.MethodName) prog_10_method_2_code (1 : Nat) (Option.some Jvm.ClassFile.FieldType.boolean)).before a0 Z = true := hw _ (List.mem_of_getElem? (i := 64) rfl)
theorem own_w65 {Z : State} {a0 : Array Value} (hw : own_Z Z a0) : (Jvm.Cond.methodLink "com/example/slotwise/slotwise/DeparturesPollPinLaw" (41 : Nat) ({ cls := "com/example/slotwise/slotwise/DeparturesPollPinLaw", name := "index", desc := "(Lcom/example/slotwise/slotwise/Simulation$Connection;[Lcom/example/slotwise/slotwise/Simulation$Connection;)I" } : Jvm.MethodName)).before a0 Z = true := hw _ (List.mem_of_getElem? (i := 65) rfl)
theorem own_w66 {Z : State} {a0 : Array Value} (hw : own_Z Z a0) : (Jvm.Cond.static ({ cls := "com/example/slotwise/slotwise/DeparturesPollPinLaw", name := "index", desc := "(Lcom/example/slotwise/slotwise/Simulation$Connection;[Lcom/example/slotwise/slotwise/Simulation$Connection;)I" } : Jvm.MethodName)).before a0 Z = true := hw _ (List.mem_of_getElem? (i := 66) rfl)
theorem own_w67 {Z : State} {a0 : Array Value} (hw : own_Z Z a0) : (Jvm.Cond.code ({ cls := "com/example/slotwise/slotwise/DeparturesPollPinLaw", name := "index", desc := "(Lcom/example/slotwise/slotwise/Simulation$Connection;[Lcom/example/slotwise/slotwise/Simulation$Connection;)I" } : Jvm.MethodName) method_3_code (2 : Nat) (Option.some Jvm.ClassFile.FieldType.int)).before a0 Z = true := hw _ (List.mem_of_getElem? (i := 67) rfl)
theorem own_w68 {Z : State} {a0 : Array Value} (hw : own_Z Z a0) : (Jvm.Cond.methodLink "com/example/slotwise/slotwise/DeparturesPollPinLaw" (45 : Nat) ({ cls := "com/example/slotwise/slotwise/DeparturesPollPinLaw", name := "minUpTo", desc := "([II)I" } : Jvm.MethodName)).before a0 Z = true := hw _ (List.mem_of_getElem? (i := 68) rfl)
theorem own_w69 {Z : State} {a0 : Array Value} (hw : own_Z Z a0) : (Jvm.Cond.static ({ cls := "com/example/slotwise/slotwise/DeparturesPollPinLaw", name := "minUpTo", desc := "([II)I" } : Jvm.MethodName)).before a0 Z = true := hw _ (List.mem_of_getElem? (i := 69) rfl)
theorem own_w70 {Z : State} {a0 : Array Value} (hw : own_Z Z a0) : (Jvm.Cond.code ({ cls := "com/example/slotwise/slotwise/DeparturesPollPinLaw", name := "minUpTo", desc := "([II)I" } : Jvm.MethodName) method_4_code (3 : Nat) (Option.some Jvm.ClassFile.FieldType.int)).before a0 Z = true := hw _ (List.mem_of_getElem? (i := 70) rfl)
theorem own_w71 {Z : State} {a0 : Array Value} (hw : own_Z Z a0) : (Jvm.Cond.methodLink "com/example/slotwise/slotwise/DeparturesPollPinLaw" (9 : Nat) ({ cls := "java/lang/Math", name := "min", desc := "(II)I" } : Jvm.MethodName)).before a0 Z = true := hw _ (List.mem_of_getElem? (i := 71) rfl)
theorem own_w72 {Z : State} {a0 : Array Value} (hw : own_Z Z a0) : (Jvm.Cond.static ({ cls := "java/lang/Math", name := "min", desc := "(II)I" } : Jvm.MethodName)).before a0 Z = true := hw _ (List.mem_of_getElem? (i := 72) rfl)
theorem own_w73 {Z : State} {a0 : Array Value} (hw : own_Z Z a0) : (Jvm.Cond.initialized "java/lang/Math").before a0 Z = true := hw _ (List.mem_of_getElem? (i := 73) rfl)
theorem own_w74 {Z : State} {a0 : Array Value} (hw : own_Z Z a0) : (Jvm.Cond.code ({ cls := "java/lang/Math", name := "min", desc := "(II)I" } : Jvm.MethodName) jdk_29_method_69_code (2 : Nat) (Option.some Jvm.ClassFile.FieldType.int)).before a0 Z = true := hw _ (List.mem_of_getElem? (i := 74) rfl)
theorem own_d0_0 : own_D prog_33_method_5_code 0 (.aload_n 0) 1 1 := ⟨by decide +kernel, rfl⟩
theorem own_d0_1 : own_D prog_33_method_5_code 1 (.getfield 7) 3 4 := ⟨by decide +kernel, rfl⟩
theorem own_d0_4 : own_D prog_33_method_5_code 4 (.dreturn) 1 5 := ⟨by decide +kernel, rfl⟩
theorem own_d1_0 : own_D prog_10_method_4_code 0 (.aload_n 0) 1 1 := ⟨by decide +kernel, rfl⟩
theorem own_d1_1 : own_D prog_10_method_4_code 1 (.getfield 19) 3 4 := ⟨by decide +kernel, rfl⟩
theorem own_d1_4 : own_D prog_10_method_4_code 4 (.aload_n 0) 1 5 := ⟨by decide +kernel, rfl⟩
theorem own_d1_5 : own_D prog_10_method_4_code 5 (.getfield 9) 3 8 := ⟨by decide +kernel, rfl⟩
theorem own_d1_8 : own_D prog_10_method_4_code 8 (.arraylength) 1 9 := ⟨by decide +kernel, rfl⟩
theorem own_d1_9 : own_B prog_10_method_4_code 9 (.if_icmp .ne 40) 40 12 49 := ⟨by decide +kernel, rfl, by decide, by decide⟩
theorem own_d1_49 : own_D prog_10_method_4_code 49 (.aload_n 1) 1 50 := ⟨by decide +kernel, rfl⟩
theorem own_d1_50 : own_D prog_10_method_4_code 50 (.invokevirtual 33) 3 53 := ⟨by decide +kernel, rfl⟩
theorem own_d1_53 : own_D prog_10_method_4_code 53 (.dstore_n 2) 1 54 := ⟨by decide +kernel, rfl⟩
theorem own_d1_54 : own_D prog_10_method_4_code 54 (.aload_n 0) 1 55 := ⟨by decide +kernel, rfl⟩
theorem own_d1_55 : own_D prog_10_method_4_code 55 (.getfield 19) 3 58 := ⟨by decide +kernel, rfl⟩
theorem own_d1_58 : own_D prog_10_method_4_code 58 (.istore 4) 2 60 := ⟨by decide +kernel, rfl⟩
theorem own_d1_60 : own_D prog_10_method_4_code 60 (.iload 4) 2 62 := ⟨by decide +kernel, rfl⟩
theorem own_d1_62 : own_B prog_10_method_4_code 62 (.ifCond .le 61) 61 65 123 := ⟨by decide +kernel, rfl, by decide, by decide⟩
theorem own_d1_123 : own_D prog_10_method_4_code 123 (.aload_n 0) 1 124 := ⟨by decide +kernel, rfl⟩
theorem own_d1_124 : own_D prog_10_method_4_code 124 (.getfield 9) 3 127 := ⟨by decide +kernel, rfl⟩
theorem own_d1_127 : own_D prog_10_method_4_code 127 (.iload 4) 2 129 := ⟨by decide +kernel, rfl⟩
theorem own_d1_129 : own_D prog_10_method_4_code 129 (.dload_n 2) 1 130 := ⟨by decide +kernel, rfl⟩
theorem own_d1_130 : own_D prog_10_method_4_code 130 (.dastore) 1 131 := ⟨by decide +kernel, rfl⟩
theorem own_d1_131 : own_D prog_10_method_4_code 131 (.aload_n 0) 1 132 := ⟨by decide +kernel, rfl⟩
theorem own_d1_132 : own_D prog_10_method_4_code 132 (.getfield 15) 3 135 := ⟨by decide +kernel, rfl⟩
theorem own_d1_135 : own_D prog_10_method_4_code 135 (.iload 4) 2 137 := ⟨by decide +kernel, rfl⟩
theorem own_d1_137 : own_D prog_10_method_4_code 137 (.aload_n 1) 1 138 := ⟨by decide +kernel, rfl⟩
theorem own_d1_138 : own_D prog_10_method_4_code 138 (.aastore) 1 139 := ⟨by decide +kernel, rfl⟩
theorem own_d1_139 : own_D prog_10_method_4_code 139 (.aload_n 0) 1 140 := ⟨by decide +kernel, rfl⟩
theorem own_d1_140 : own_D prog_10_method_4_code 140 (.dup) 1 141 := ⟨by decide +kernel, rfl⟩
theorem own_d1_141 : own_D prog_10_method_4_code 141 (.getfield 19) 3 144 := ⟨by decide +kernel, rfl⟩
theorem own_d1_144 : own_D prog_10_method_4_code 144 (.iconst 1) 1 145 := ⟨by decide +kernel, rfl⟩
theorem own_d1_145 : own_D prog_10_method_4_code 145 (.iadd) 1 146 := ⟨by decide +kernel, rfl⟩
theorem own_d1_146 : own_D prog_10_method_4_code 146 (.putfield 19) 3 149 := ⟨by decide +kernel, rfl⟩
theorem own_d1_149 : own_D prog_10_method_4_code 149 (.return_) 1 150 := ⟨by decide +kernel, rfl⟩
theorem own_d1_65 : own_D prog_10_method_4_code 65 (.iload 4) 2 67 := ⟨by decide +kernel, rfl⟩
theorem own_d1_67 : own_D prog_10_method_4_code 67 (.iconst 1) 1 68 := ⟨by decide +kernel, rfl⟩
theorem own_d1_68 : own_D prog_10_method_4_code 68 (.isub) 1 69 := ⟨by decide +kernel, rfl⟩
theorem own_d1_69 : own_D prog_10_method_4_code 69 (.iconst 1) 1 70 := ⟨by decide +kernel, rfl⟩
theorem own_d1_70 : own_D prog_10_method_4_code 70 (.iushr) 1 71 := ⟨by decide +kernel, rfl⟩
theorem own_d1_71 : own_D prog_10_method_4_code 71 (.istore 5) 2 73 := ⟨by decide +kernel, rfl⟩
theorem own_d1_73 : own_D prog_10_method_4_code 73 (.aload_n 0) 1 74 := ⟨by decide +kernel, rfl⟩
theorem own_d1_74 : own_D prog_10_method_4_code 74 (.getfield 9) 3 77 := ⟨by decide +kernel, rfl⟩
theorem own_d1_77 : own_D prog_10_method_4_code 77 (.iload 5) 2 79 := ⟨by decide +kernel, rfl⟩
theorem own_d1_79 : own_D prog_10_method_4_code 79 (.daload) 1 80 := ⟨by decide +kernel, rfl⟩
theorem own_d1_80 : own_D prog_10_method_4_code 80 (.dload_n 2) 1 81 := ⟨by decide +kernel, rfl⟩
theorem own_d1_81 : own_D prog_10_method_4_code 81 (.dcmp .g) 1 82 := ⟨by decide +kernel, rfl⟩
theorem own_d1_82 : own_B prog_10_method_4_code 82 (.ifCond .gt 6) 6 85 88 := ⟨by decide +kernel, rfl, by decide, by decide⟩
theorem own_d1_88 : own_D prog_10_method_4_code 88 (.aload_n 0) 1 89 := ⟨by decide +kernel, rfl⟩
theorem own_d1_89 : own_D prog_10_method_4_code 89 (.getfield 9) 3 92 := ⟨by decide +kernel, rfl⟩
theorem own_d1_92 : own_D prog_10_method_4_code 92 (.iload 4) 2 94 := ⟨by decide +kernel, rfl⟩
theorem own_d1_94 : own_D prog_10_method_4_code 94 (.aload_n 0) 1 95 := ⟨by decide +kernel, rfl⟩
theorem own_d1_95 : own_D prog_10_method_4_code 95 (.getfield 9) 3 98 := ⟨by decide +kernel, rfl⟩
theorem own_d1_98 : own_D prog_10_method_4_code 98 (.iload 5) 2 100 := ⟨by decide +kernel, rfl⟩
theorem own_d1_100 : own_D prog_10_method_4_code 100 (.daload) 1 101 := ⟨by decide +kernel, rfl⟩
theorem own_d1_101 : own_D prog_10_method_4_code 101 (.dastore) 1 102 := ⟨by decide +kernel, rfl⟩
theorem own_d1_102 : own_D prog_10_method_4_code 102 (.aload_n 0) 1 103 := ⟨by decide +kernel, rfl⟩
theorem own_d1_103 : own_D prog_10_method_4_code 103 (.getfield 15) 3 106 := ⟨by decide +kernel, rfl⟩
theorem own_d1_106 : own_D prog_10_method_4_code 106 (.iload 4) 2 108 := ⟨by decide +kernel, rfl⟩
theorem own_d1_108 : own_D prog_10_method_4_code 108 (.aload_n 0) 1 109 := ⟨by decide +kernel, rfl⟩
theorem own_d1_109 : own_D prog_10_method_4_code 109 (.getfield 15) 3 112 := ⟨by decide +kernel, rfl⟩
theorem own_d1_112 : own_D prog_10_method_4_code 112 (.iload 5) 2 114 := ⟨by decide +kernel, rfl⟩
theorem own_d1_114 : own_D prog_10_method_4_code 114 (.aaload) 1 115 := ⟨by decide +kernel, rfl⟩
theorem own_d1_115 : own_D prog_10_method_4_code 115 (.aastore) 1 116 := ⟨by decide +kernel, rfl⟩
theorem own_d1_116 : own_D prog_10_method_4_code 116 (.iload 5) 2 118 := ⟨by decide +kernel, rfl⟩
theorem own_d1_118 : own_D prog_10_method_4_code 118 (.istore 4) 2 120 := ⟨by decide +kernel, rfl⟩
theorem own_d1_120 : own_B prog_10_method_4_code 120 (.goto (-60)) (-60) 123 60 := ⟨by decide +kernel, rfl, by decide, by decide⟩
theorem own_d1_85 : own_B prog_10_method_4_code 85 (.goto 38) 38 88 123 := ⟨by decide +kernel, rfl, by decide, by decide⟩
theorem own_d2_0 : own_D prog_10_method_5_code 0 (.aload_n 0) 1 1 := ⟨by decide +kernel, rfl⟩
theorem own_d2_1 : own_D prog_10_method_5_code 1 (.getfield 15) 3 4 := ⟨by decide +kernel, rfl⟩
theorem own_d2_4 : own_D prog_10_method_5_code 4 (.iconst 0) 1 5 := ⟨by decide +kernel, rfl⟩
theorem own_d2_5 : own_D prog_10_method_5_code 5 (.aaload) 1 6 := ⟨by decide +kernel, rfl⟩
theorem own_d2_6 : own_D prog_10_method_5_code 6 (.astore_n 1) 1 7 := ⟨by decide +kernel, rfl⟩
theorem own_d2_7 : own_D prog_10_method_5_code 7 (.aload_n 0) 1 8 := ⟨by decide +kernel, rfl⟩
theorem own_d2_8 : own_D prog_10_method_5_code 8 (.dup) 1 9 := ⟨by decide +kernel, rfl⟩
theorem own_d2_9 : own_D prog_10_method_5_code 9 (.getfield 19) 3 12 := ⟨by decide +kernel, rfl⟩
theorem own_d2_12 : own_D prog_10_method_5_code 12 (.iconst 1) 1 13 := ⟨by decide +kernel, rfl⟩
theorem own_d2_13 : own_D prog_10_method_5_code 13 (.isub) 1 14 := ⟨by decide +kernel, rfl⟩
theorem own_d2_14 : own_D prog_10_method_5_code 14 (.putfield 19) 3 17 := ⟨by decide +kernel, rfl⟩
theorem own_d2_17 : own_D prog_10_method_5_code 17 (.aload_n 0) 1 18 := ⟨by decide +kernel, rfl⟩
theorem own_d2_18 : own_D prog_10_method_5_code 18 (.getfield 9) 3 21 := ⟨by decide +kernel, rfl⟩
theorem own_d2_21 : own_D prog_10_method_5_code 21 (.aload_n 0) 1 22 := ⟨by decide +kernel, rfl⟩
theorem own_d2_22 : own_D prog_10_method_5_code 22 (.getfield 19) 3 25 := ⟨by decide +kernel, rfl⟩
theorem own_d2_25 : own_D prog_10_method_5_code 25 (.daload) 1 26 := ⟨by decide +kernel, rfl⟩
theorem own_d2_26 : own_D prog_10_method_5_code 26 (.dstore_n 2) 1 27 := ⟨by decide +kernel, rfl⟩
theorem own_d2_27 : own_D prog_10_method_5_code 27 (.aload_n 0) 1 28 := ⟨by decide +kernel, rfl⟩
theorem own_d2_28 : own_D prog_10_method_5_code 28 (.getfield 15) 3 31 := ⟨by decide +kernel, rfl⟩
theorem own_d2_31 : own_D prog_10_method_5_code 31 (.aload_n 0) 1 32 := ⟨by decide +kernel, rfl⟩
theorem own_d2_32 : own_D prog_10_method_5_code 32 (.getfield 19) 3 35 := ⟨by decide +kernel, rfl⟩
theorem own_d2_35 : own_D prog_10_method_5_code 35 (.aaload) 1 36 := ⟨by decide +kernel, rfl⟩
theorem own_d2_36 : own_D prog_10_method_5_code 36 (.astore 4) 2 38 := ⟨by decide +kernel, rfl⟩
theorem own_d2_38 : own_D prog_10_method_5_code 38 (.aload_n 0) 1 39 := ⟨by decide +kernel, rfl⟩
theorem own_d2_39 : own_D prog_10_method_5_code 39 (.getfield 15) 3 42 := ⟨by decide +kernel, rfl⟩
theorem own_d2_42 : own_D prog_10_method_5_code 42 (.aload_n 0) 1 43 := ⟨by decide +kernel, rfl⟩
theorem own_d2_43 : own_D prog_10_method_5_code 43 (.getfield 19) 3 46 := ⟨by decide +kernel, rfl⟩
theorem own_d2_46 : own_D prog_10_method_5_code 46 (.aconst_null) 1 47 := ⟨by decide +kernel, rfl⟩
theorem own_d2_47 : own_D prog_10_method_5_code 47 (.aastore) 1 48 := ⟨by decide +kernel, rfl⟩
theorem own_d2_48 : own_D prog_10_method_5_code 48 (.aload_n 0) 1 49 := ⟨by decide +kernel, rfl⟩
theorem own_d2_49 : own_D prog_10_method_5_code 49 (.getfield 19) 3 52 := ⟨by decide +kernel, rfl⟩
theorem own_d2_52 : own_B prog_10_method_5_code 52 (.ifCond .le 130) 130 55 182 := ⟨by decide +kernel, rfl, by decide, by decide⟩
theorem own_d2_55 : own_D prog_10_method_5_code 55 (.iconst 0) 1 56 := ⟨by decide +kernel, rfl⟩
theorem own_d2_56 : own_D prog_10_method_5_code 56 (.istore 5) 2 58 := ⟨by decide +kernel, rfl⟩
theorem own_d2_58 : own_D prog_10_method_5_code 58 (.aload_n 0) 1 59 := ⟨by decide +kernel, rfl⟩
theorem own_d2_59 : own_D prog_10_method_5_code 59 (.getfield 19) 3 62 := ⟨by decide +kernel, rfl⟩
theorem own_d2_62 : own_D prog_10_method_5_code 62 (.iconst 1) 1 63 := ⟨by decide +kernel, rfl⟩
theorem own_d2_63 : own_D prog_10_method_5_code 63 (.iushr) 1 64 := ⟨by decide +kernel, rfl⟩
theorem own_d2_64 : own_D prog_10_method_5_code 64 (.istore 6) 2 66 := ⟨by decide +kernel, rfl⟩
theorem own_d2_66 : own_D prog_10_method_5_code 66 (.iload 5) 2 68 := ⟨by decide +kernel, rfl⟩
theorem own_d2_68 : own_D prog_10_method_5_code 68 (.iload 6) 2 70 := ⟨by decide +kernel, rfl⟩
theorem own_d2_70 : own_B prog_10_method_5_code 70 (.if_icmp .ge 95) 95 73 165 := ⟨by decide +kernel, rfl, by decide, by decide⟩
theorem own_d2_73 : own_D prog_10_method_5_code 73 (.iconst 2) 1 74 := ⟨by decide +kernel, rfl⟩
theorem own_d2_74 : own_D prog_10_method_5_code 74 (.iload 5) 2 76 := ⟨by decide +kernel, rfl⟩
theorem own_d2_76 : own_D prog_10_method_5_code 76 (.imul) 1 77 := ⟨by decide +kernel, rfl⟩
theorem own_d2_77 : own_D prog_10_method_5_code 77 (.iconst 1) 1 78 := ⟨by decide +kernel, rfl⟩
theorem own_d2_78 : own_D prog_10_method_5_code 78 (.iadd) 1 79 := ⟨by decide +kernel, rfl⟩
theorem own_d2_79 : own_D prog_10_method_5_code 79 (.istore 7) 2 81 := ⟨by decide +kernel, rfl⟩
theorem own_d2_81 : own_D prog_10_method_5_code 81 (.iload 7) 2 83 := ⟨by decide +kernel, rfl⟩
theorem own_d2_83 : own_D prog_10_method_5_code 83 (.iconst 1) 1 84 := ⟨by decide +kernel, rfl⟩
theorem own_d2_84 : own_D prog_10_method_5_code 84 (.iadd) 1 85 := ⟨by decide +kernel, rfl⟩
theorem own_d2_85 : own_D prog_10_method_5_code 85 (.aload_n 0) 1 86 := ⟨by decide +kernel, rfl⟩
theorem own_d2_86 : own_D prog_10_method_5_code 86 (.getfield 19) 3 89 := ⟨by decide +kernel, rfl⟩
theorem own_d2_89 : own_B prog_10_method_5_code 89 (.if_icmp .ge 26) 26 92 115 := ⟨by decide +kernel, rfl, by decide, by decide⟩
theorem own_d2_92 : own_D prog_10_method_5_code 92 (.aload_n 0) 1 93 := ⟨by decide +kernel, rfl⟩
theorem own_d2_93 : own_D prog_10_method_5_code 93 (.getfield 9) 3 96 := ⟨by decide +kernel, rfl⟩
theorem own_d2_96 : own_D prog_10_method_5_code 96 (.iload 7) 2 98 := ⟨by decide +kernel, rfl⟩
theorem own_d2_98 : own_D prog_10_method_5_code 98 (.iconst 1) 1 99 := ⟨by decide +kernel, rfl⟩
theorem own_d2_99 : own_D prog_10_method_5_code 99 (.iadd) 1 100 := ⟨by decide +kernel, rfl⟩
theorem own_d2_100 : own_D prog_10_method_5_code 100 (.daload) 1 101 := ⟨by decide +kernel, rfl⟩
theorem own_d2_101 : own_D prog_10_method_5_code 101 (.aload_n 0) 1 102 := ⟨by decide +kernel, rfl⟩
theorem own_d2_102 : own_D prog_10_method_5_code 102 (.getfield 9) 3 105 := ⟨by decide +kernel, rfl⟩
theorem own_d2_105 : own_D prog_10_method_5_code 105 (.iload 7) 2 107 := ⟨by decide +kernel, rfl⟩
theorem own_d2_107 : own_D prog_10_method_5_code 107 (.daload) 1 108 := ⟨by decide +kernel, rfl⟩
theorem own_d2_108 : own_D prog_10_method_5_code 108 (.dcmp .g) 1 109 := ⟨by decide +kernel, rfl⟩
theorem own_d2_109 : own_B prog_10_method_5_code 109 (.ifCond .ge 6) 6 112 115 := ⟨by decide +kernel, rfl, by decide, by decide⟩
theorem own_d2_115 : own_D prog_10_method_5_code 115 (.dload_n 2) 1 116 := ⟨by decide +kernel, rfl⟩
theorem own_d2_116 : own_D prog_10_method_5_code 116 (.aload_n 0) 1 117 := ⟨by decide +kernel, rfl⟩
theorem own_d2_117 : own_D prog_10_method_5_code 117 (.getfield 9) 3 120 := ⟨by decide +kernel, rfl⟩
theorem own_d2_120 : own_D prog_10_method_5_code 120 (.iload 7) 2 122 := ⟨by decide +kernel, rfl⟩
theorem own_d2_122 : own_D prog_10_method_5_code 122 (.daload) 1 123 := ⟨by decide +kernel, rfl⟩
theorem own_d2_123 : own_D prog_10_method_5_code 123 (.dcmp .g) 1 124 := ⟨by decide +kernel, rfl⟩
theorem own_d2_124 : own_B prog_10_method_5_code 124 (.ifCond .gt 6) 6 127 130 := ⟨by decide +kernel, rfl, by decide, by decide⟩
theorem own_d2_130 : own_D prog_10_method_5_code 130 (.aload_n 0) 1 131 := ⟨by decide +kernel, rfl⟩
theorem own_d2_131 : own_D prog_10_method_5_code 131 (.getfield 9) 3 134 := ⟨by decide +kernel, rfl⟩
theorem own_d2_134 : own_D prog_10_method_5_code 134 (.iload 5) 2 136 := ⟨by decide +kernel, rfl⟩
theorem own_d2_136 : own_D prog_10_method_5_code 136 (.aload_n 0) 1 137 := ⟨by decide +kernel, rfl⟩
theorem own_d2_137 : own_D prog_10_method_5_code 137 (.getfield 9) 3 140 := ⟨by decide +kernel, rfl⟩
theorem own_d2_140 : own_D prog_10_method_5_code 140 (.iload 7) 2 142 := ⟨by decide +kernel, rfl⟩
theorem own_d2_142 : own_D prog_10_method_5_code 142 (.daload) 1 143 := ⟨by decide +kernel, rfl⟩
theorem own_d2_143 : own_D prog_10_method_5_code 143 (.dastore) 1 144 := ⟨by decide +kernel, rfl⟩
theorem own_d2_144 : own_D prog_10_method_5_code 144 (.aload_n 0) 1 145 := ⟨by decide +kernel, rfl⟩
theorem own_d2_145 : own_D prog_10_method_5_code 145 (.getfield 15) 3 148 := ⟨by decide +kernel, rfl⟩
theorem own_d2_148 : own_D prog_10_method_5_code 148 (.iload 5) 2 150 := ⟨by decide +kernel, rfl⟩
theorem own_d2_150 : own_D prog_10_method_5_code 150 (.aload_n 0) 1 151 := ⟨by decide +kernel, rfl⟩
theorem own_d2_151 : own_D prog_10_method_5_code 151 (.getfield 15) 3 154 := ⟨by decide +kernel, rfl⟩
theorem own_d2_154 : own_D prog_10_method_5_code 154 (.iload 7) 2 156 := ⟨by decide +kernel, rfl⟩
theorem own_d2_156 : own_D prog_10_method_5_code 156 (.aaload) 1 157 := ⟨by decide +kernel, rfl⟩
theorem own_d2_157 : own_D prog_10_method_5_code 157 (.aastore) 1 158 := ⟨by decide +kernel, rfl⟩
theorem own_d2_158 : own_D prog_10_method_5_code 158 (.iload 7) 2 160 := ⟨by decide +kernel, rfl⟩
theorem own_d2_160 : own_D prog_10_method_5_code 160 (.istore 5) 2 162 := ⟨by decide +kernel, rfl⟩
theorem own_d2_162 : own_B prog_10_method_5_code 162 (.goto (-96)) (-96) 165 66 := ⟨by decide +kernel, rfl, by decide, by decide⟩
theorem own_d2_165 : own_D prog_10_method_5_code 165 (.aload_n 0) 1 166 := ⟨by decide +kernel, rfl⟩
theorem own_d2_166 : own_D prog_10_method_5_code 166 (.getfield 9) 3 169 := ⟨by decide +kernel, rfl⟩
theorem own_d2_169 : own_D prog_10_method_5_code 169 (.iload 5) 2 171 := ⟨by decide +kernel, rfl⟩
theorem own_d2_171 : own_D prog_10_method_5_code 171 (.dload_n 2) 1 172 := ⟨by decide +kernel, rfl⟩
theorem own_d2_172 : own_D prog_10_method_5_code 172 (.dastore) 1 173 := ⟨by decide +kernel, rfl⟩
theorem own_d2_173 : own_D prog_10_method_5_code 173 (.aload_n 0) 1 174 := ⟨by decide +kernel, rfl⟩
theorem own_d2_174 : own_D prog_10_method_5_code 174 (.getfield 15) 3 177 := ⟨by decide +kernel, rfl⟩
theorem own_d2_177 : own_D prog_10_method_5_code 177 (.iload 5) 2 179 := ⟨by decide +kernel, rfl⟩
theorem own_d2_179 : own_D prog_10_method_5_code 179 (.aload 4) 2 181 := ⟨by decide +kernel, rfl⟩
theorem own_d2_181 : own_D prog_10_method_5_code 181 (.aastore) 1 182 := ⟨by decide +kernel, rfl⟩
theorem own_d2_182 : own_D prog_10_method_5_code 182 (.aload_n 1) 1 183 := ⟨by decide +kernel, rfl⟩
theorem own_d2_183 : own_D prog_10_method_5_code 183 (.areturn) 1 184 := ⟨by decide +kernel, rfl⟩
theorem own_d2_127 : own_B prog_10_method_5_code 127 (.goto 38) 38 130 165 := ⟨by decide +kernel, rfl, by decide, by decide⟩
theorem own_d2_112 : own_D prog_10_method_5_code 112 (.iinc 7 1) 3 115 := ⟨by decide +kernel, rfl⟩
theorem own_d3_0 : own_D jdk_30_method_1_code 0 (.aload_n 0) 1 1 := ⟨by decide +kernel, rfl⟩
theorem own_d3_1 : own_D jdk_30_method_1_code 1 (.invokespecial 1) 3 4 := ⟨by decide +kernel, rfl⟩
theorem own_d3_4 : own_D jdk_30_method_1_code 4 (.return_) 1 5 := ⟨by decide +kernel, rfl⟩
theorem own_d4_0 : own_D prog_33_method_1_code 0 (.aload_n 0) 1 1 := ⟨by decide +kernel, rfl⟩
theorem own_d4_1 : own_D prog_33_method_1_code 1 (.invokespecial 1) 3 4 := ⟨by decide +kernel, rfl⟩
theorem own_d4_4 : own_D prog_33_method_1_code 4 (.aload_n 0) 1 5 := ⟨by decide +kernel, rfl⟩
theorem own_d4_5 : own_D prog_33_method_1_code 5 (.dload_n 1) 1 6 := ⟨by decide +kernel, rfl⟩
theorem own_d4_6 : own_D prog_33_method_1_code 6 (.putfield 7) 3 9 := ⟨by decide +kernel, rfl⟩
theorem own_d4_9 : own_D prog_33_method_1_code 9 (.aload_n 0) 1 10 := ⟨by decide +kernel, rfl⟩
theorem own_d4_10 : own_D prog_33_method_1_code 10 (.aload_n 3) 1 11 := ⟨by decide +kernel, rfl⟩
theorem own_d4_11 : own_D prog_33_method_1_code 11 (.putfield 13) 3 14 := ⟨by decide +kernel, rfl⟩
theorem own_d4_14 : own_D prog_33_method_1_code 14 (.aload_n 0) 1 15 := ⟨by decide +kernel, rfl⟩
theorem own_d4_15 : own_D prog_33_method_1_code 15 (.iload 4) 2 17 := ⟨by decide +kernel, rfl⟩
theorem own_d4_17 : own_D prog_33_method_1_code 17 (.putfield 17) 3 20 := ⟨by decide +kernel, rfl⟩
theorem own_d4_20 : own_D prog_33_method_1_code 20 (.aload_n 0) 1 21 := ⟨by decide +kernel, rfl⟩
theorem own_d4_21 : own_D prog_33_method_1_code 21 (.iload 5) 2 23 := ⟨by decide +kernel, rfl⟩
theorem own_d4_23 : own_D prog_33_method_1_code 23 (.putfield 21) 3 26 := ⟨by decide +kernel, rfl⟩
theorem own_d4_26 : own_D prog_33_method_1_code 26 (.return_) 1 27 := ⟨by decide +kernel, rfl⟩
theorem own_d5_0 : own_D prog_10_method_1_code 0 (.aload_n 0) 1 1 := ⟨by decide +kernel, rfl⟩
theorem own_d5_1 : own_D prog_10_method_1_code 1 (.invokespecial 1) 3 4 := ⟨by decide +kernel, rfl⟩
theorem own_d5_4 : own_D prog_10_method_1_code 4 (.aload_n 0) 1 5 := ⟨by decide +kernel, rfl⟩
theorem own_d5_5 : own_D prog_10_method_1_code 5 (.bipush 64) 2 7 := ⟨by decide +kernel, rfl⟩
theorem own_d5_7 : own_D prog_10_method_1_code 7 (.newarray .double) 2 9 := ⟨by decide +kernel, rfl⟩
theorem own_d5_9 : own_D prog_10_method_1_code 9 (.putfield 9) 3 12 := ⟨by decide +kernel, rfl⟩
theorem own_d5_12 : own_D prog_10_method_1_code 12 (.aload_n 0) 1 13 := ⟨by decide +kernel, rfl⟩
theorem own_d5_13 : own_D prog_10_method_1_code 13 (.bipush 64) 2 15 := ⟨by decide +kernel, rfl⟩
theorem own_d5_15 : own_D prog_10_method_1_code 15 (.anewarray 13) 3 18 := ⟨by decide +kernel, rfl⟩
theorem own_d5_18 : own_D prog_10_method_1_code 18 (.putfield 15) 3 21 := ⟨by decide +kernel, rfl⟩
theorem own_d5_21 : own_D prog_10_method_1_code 21 (.return_) 1 22 := ⟨by decide +kernel, rfl⟩
theorem own_d6_0 : own_D method_2_code 0 (.lload_n 0) 1 1 := ⟨by decide +kernel, rfl⟩
theorem own_d6_1 : own_D method_2_code 1 (.bipush 8) 2 3 := ⟨by decide +kernel, rfl⟩
theorem own_d6_3 : own_D method_2_code 3 (.iload_n 2) 1 4 := ⟨by decide +kernel, rfl⟩
theorem own_d6_4 : own_D method_2_code 4 (.imul) 1 5 := ⟨by decide +kernel, rfl⟩
theorem own_d6_5 : own_D method_2_code 5 (.lushr) 1 6 := ⟨by decide +kernel, rfl⟩
theorem own_d6_6 : own_D method_2_code 6 (.ldc2_w 7) 3 9 := ⟨by decide +kernel, rfl⟩
theorem own_d6_9 : own_D method_2_code 9 (.land) 1 10 := ⟨by decide +kernel, rfl⟩
theorem own_d6_10 : own_D method_2_code 10 (.l2i) 1 11 := ⟨by decide +kernel, rfl⟩
theorem own_d6_11 : own_D method_2_code 11 (.sipush 128) 3 14 := ⟨by decide +kernel, rfl⟩
theorem own_d6_14 : own_D method_2_code 14 (.isub) 1 15 := ⟨by decide +kernel, rfl⟩
theorem own_d6_15 : own_D method_2_code 15 (.ireturn) 1 16 := ⟨by decide +kernel, rfl⟩
theorem own_d7_0 : own_D prog_10_method_2_code 0 (.aload_n 0) 1 1 := ⟨by decide +kernel, rfl⟩
theorem own_d7_1 : own_D prog_10_method_2_code 1 (.getfield 19) 3 4 := ⟨by decide +kernel, rfl⟩
theorem own_d7_4 : own_B prog_10_method_2_code 4 (.ifCond .ne 7) 7 7 11 := ⟨by decide +kernel, rfl, by decide, by decide⟩
theorem own_d7_7 : own_D prog_10_method_2_code 7 (.iconst 1) 1 8 := ⟨by decide +kernel, rfl⟩
theorem own_d7_8 : own_B prog_10_method_2_code 8 (.goto 4) 4 11 12 := ⟨by decide +kernel, rfl, by decide, by decide⟩
theorem own_d7_12 : own_D prog_10_method_2_code 12 (.ireturn) 1 13 := ⟨by decide +kernel, rfl⟩
theorem own_d8_0 : own_D method_3_code 0 (.aload_n 0) 1 1 := ⟨by decide +kernel, rfl⟩
theorem own_d8_1 : own_D method_3_code 1 (.aload_n 1) 1 2 := ⟨by decide +kernel, rfl⟩
theorem own_d8_2 : own_D method_3_code 2 (.iconst 0) 1 3 := ⟨by decide +kernel, rfl⟩
theorem own_d8_3 : own_D method_3_code 3 (.aaload) 1 4 := ⟨by decide +kernel, rfl⟩
theorem own_d8_4 : own_B method_3_code 4 (.if_acmp .ne 5) 5 7 9 := ⟨by decide +kernel, rfl, by decide, by decide⟩
theorem own_d8_9 : own_D method_3_code 9 (.aload_n 0) 1 10 := ⟨by decide +kernel, rfl⟩
theorem own_d8_10 : own_D method_3_code 10 (.aload_n 1) 1 11 := ⟨by decide +kernel, rfl⟩
theorem own_d8_11 : own_D method_3_code 11 (.iconst 1) 1 12 := ⟨by decide +kernel, rfl⟩
theorem own_d8_12 : own_D method_3_code 12 (.aaload) 1 13 := ⟨by decide +kernel, rfl⟩
theorem own_d8_13 : own_B method_3_code 13 (.if_acmp .ne 5) 5 16 18 := ⟨by decide +kernel, rfl, by decide, by decide⟩
theorem own_d8_18 : own_D method_3_code 18 (.aload_n 0) 1 19 := ⟨by decide +kernel, rfl⟩
theorem own_d8_19 : own_D method_3_code 19 (.aload_n 1) 1 20 := ⟨by decide +kernel, rfl⟩
theorem own_d8_20 : own_D method_3_code 20 (.iconst 2) 1 21 := ⟨by decide +kernel, rfl⟩
theorem own_d8_21 : own_D method_3_code 21 (.aaload) 1 22 := ⟨by decide +kernel, rfl⟩
theorem own_d8_22 : own_B method_3_code 22 (.if_acmp .ne 5) 5 25 27 := ⟨by decide +kernel, rfl, by decide, by decide⟩
theorem own_d8_27 : own_D method_3_code 27 (.aload_n 0) 1 28 := ⟨by decide +kernel, rfl⟩
theorem own_d8_28 : own_D method_3_code 28 (.aload_n 1) 1 29 := ⟨by decide +kernel, rfl⟩
theorem own_d8_29 : own_D method_3_code 29 (.iconst 3) 1 30 := ⟨by decide +kernel, rfl⟩
theorem own_d8_30 : own_D method_3_code 30 (.aaload) 1 31 := ⟨by decide +kernel, rfl⟩
theorem own_d8_31 : own_B method_3_code 31 (.if_acmp .ne 5) 5 34 36 := ⟨by decide +kernel, rfl, by decide, by decide⟩
theorem own_d8_36 : own_D method_3_code 36 (.aload_n 0) 1 37 := ⟨by decide +kernel, rfl⟩
theorem own_d8_37 : own_D method_3_code 37 (.aload_n 1) 1 38 := ⟨by decide +kernel, rfl⟩
theorem own_d8_38 : own_D method_3_code 38 (.iconst 4) 1 39 := ⟨by decide +kernel, rfl⟩
theorem own_d8_39 : own_D method_3_code 39 (.aaload) 1 40 := ⟨by decide +kernel, rfl⟩
theorem own_d8_40 : own_B method_3_code 40 (.if_acmp .ne 5) 5 43 45 := ⟨by decide +kernel, rfl, by decide, by decide⟩
theorem own_d8_45 : own_D method_3_code 45 (.aload_n 0) 1 46 := ⟨by decide +kernel, rfl⟩
theorem own_d8_46 : own_D method_3_code 46 (.aload_n 1) 1 47 := ⟨by decide +kernel, rfl⟩
theorem own_d8_47 : own_D method_3_code 47 (.iconst 5) 1 48 := ⟨by decide +kernel, rfl⟩
theorem own_d8_48 : own_D method_3_code 48 (.aaload) 1 49 := ⟨by decide +kernel, rfl⟩
theorem own_d8_49 : own_B method_3_code 49 (.if_acmp .ne 5) 5 52 54 := ⟨by decide +kernel, rfl, by decide, by decide⟩
theorem own_d8_54 : own_D method_3_code 54 (.iconst (-1)) 1 55 := ⟨by decide +kernel, rfl⟩
theorem own_d8_55 : own_D method_3_code 55 (.ireturn) 1 56 := ⟨by decide +kernel, rfl⟩
theorem own_d8_52 : own_D method_3_code 52 (.iconst 5) 1 53 := ⟨by decide +kernel, rfl⟩
theorem own_d8_53 : own_D method_3_code 53 (.ireturn) 1 54 := ⟨by decide +kernel, rfl⟩
theorem own_d8_43 : own_D method_3_code 43 (.iconst 4) 1 44 := ⟨by decide +kernel, rfl⟩
theorem own_d8_44 : own_D method_3_code 44 (.ireturn) 1 45 := ⟨by decide +kernel, rfl⟩
theorem own_d8_34 : own_D method_3_code 34 (.iconst 3) 1 35 := ⟨by decide +kernel, rfl⟩
theorem own_d8_35 : own_D method_3_code 35 (.ireturn) 1 36 := ⟨by decide +kernel, rfl⟩
theorem own_d8_25 : own_D method_3_code 25 (.iconst 2) 1 26 := ⟨by decide +kernel, rfl⟩
theorem own_d8_26 : own_D method_3_code 26 (.ireturn) 1 27 := ⟨by decide +kernel, rfl⟩
theorem own_d8_16 : own_D method_3_code 16 (.iconst 1) 1 17 := ⟨by decide +kernel, rfl⟩
theorem own_d8_17 : own_D method_3_code 17 (.ireturn) 1 18 := ⟨by decide +kernel, rfl⟩
theorem own_d8_7 : own_D method_3_code 7 (.iconst 0) 1 8 := ⟨by decide +kernel, rfl⟩
theorem own_d8_8 : own_D method_3_code 8 (.ireturn) 1 9 := ⟨by decide +kernel, rfl⟩
theorem own_d9_0 : own_D jdk_29_method_69_code 0 (.iload_n 0) 1 1 := ⟨by decide +kernel, rfl⟩
theorem own_d9_1 : own_D jdk_29_method_69_code 1 (.iload_n 1) 1 2 := ⟨by decide +kernel, rfl⟩
theorem own_d9_2 : own_B jdk_29_method_69_code 2 (.if_icmp .gt 7) 7 5 9 := ⟨by decide +kernel, rfl, by decide, by decide⟩
theorem own_d9_9 : own_D jdk_29_method_69_code 9 (.iload_n 1) 1 10 := ⟨by decide +kernel, rfl⟩
theorem own_d9_10 : own_D jdk_29_method_69_code 10 (.ireturn) 1 11 := ⟨by decide +kernel, rfl⟩
theorem own_d9_5 : own_D jdk_29_method_69_code 5 (.iload_n 0) 1 6 := ⟨by decide +kernel, rfl⟩
theorem own_d9_6 : own_B jdk_29_method_69_code 6 (.goto 4) 4 9 10 := ⟨by decide +kernel, rfl, by decide, by decide⟩
theorem own_d10_0 : own_D method_4_code 0 (.aload_n 0) 1 1 := ⟨by decide +kernel, rfl⟩
theorem own_d10_1 : own_D method_4_code 1 (.iconst 0) 1 2 := ⟨by decide +kernel, rfl⟩
theorem own_d10_2 : own_D method_4_code 2 (.iaload) 1 3 := ⟨by decide +kernel, rfl⟩
theorem own_d10_3 : own_D method_4_code 3 (.istore_n 2) 1 4 := ⟨by decide +kernel, rfl⟩
theorem own_d10_4 : own_D method_4_code 4 (.iload_n 1) 1 5 := ⟨by decide +kernel, rfl⟩
theorem own_d10_5 : own_D method_4_code 5 (.iconst 1) 1 6 := ⟨by decide +kernel, rfl⟩
theorem own_d10_6 : own_B method_4_code 6 (.if_icmp .le 11) 11 9 17 := ⟨by decide +kernel, rfl, by decide, by decide⟩
theorem own_d10_9 : own_D method_4_code 9 (.iload_n 2) 1 10 := ⟨by decide +kernel, rfl⟩
theorem own_d10_10 : own_D method_4_code 10 (.aload_n 0) 1 11 := ⟨by decide +kernel, rfl⟩
theorem own_d10_11 : own_D method_4_code 11 (.iconst 1) 1 12 := ⟨by decide +kernel, rfl⟩
theorem own_d10_12 : own_D method_4_code 12 (.iaload) 1 13 := ⟨by decide +kernel, rfl⟩
theorem own_d10_13 : own_D method_4_code 13 (.invokestatic 9) 3 16 := ⟨by decide +kernel, rfl⟩
theorem own_d10_16 : own_D method_4_code 16 (.istore_n 2) 1 17 := ⟨by decide +kernel, rfl⟩
theorem own_d10_17 : own_D method_4_code 17 (.iload_n 1) 1 18 := ⟨by decide +kernel, rfl⟩
theorem own_d10_18 : own_D method_4_code 18 (.iconst 2) 1 19 := ⟨by decide +kernel, rfl⟩
theorem own_d10_19 : own_B method_4_code 19 (.if_icmp .le 11) 11 22 30 := ⟨by decide +kernel, rfl, by decide, by decide⟩
theorem own_d10_22 : own_D method_4_code 22 (.iload_n 2) 1 23 := ⟨by decide +kernel, rfl⟩
theorem own_d10_23 : own_D method_4_code 23 (.aload_n 0) 1 24 := ⟨by decide +kernel, rfl⟩
theorem own_d10_24 : own_D method_4_code 24 (.iconst 2) 1 25 := ⟨by decide +kernel, rfl⟩
theorem own_d10_25 : own_D method_4_code 25 (.iaload) 1 26 := ⟨by decide +kernel, rfl⟩
theorem own_d10_26 : own_D method_4_code 26 (.invokestatic 9) 3 29 := ⟨by decide +kernel, rfl⟩
theorem own_d10_29 : own_D method_4_code 29 (.istore_n 2) 1 30 := ⟨by decide +kernel, rfl⟩
theorem own_d10_30 : own_D method_4_code 30 (.iload_n 1) 1 31 := ⟨by decide +kernel, rfl⟩
theorem own_d10_31 : own_D method_4_code 31 (.iconst 3) 1 32 := ⟨by decide +kernel, rfl⟩
theorem own_d10_32 : own_B method_4_code 32 (.if_icmp .le 11) 11 35 43 := ⟨by decide +kernel, rfl, by decide, by decide⟩
theorem own_d10_35 : own_D method_4_code 35 (.iload_n 2) 1 36 := ⟨by decide +kernel, rfl⟩
theorem own_d10_36 : own_D method_4_code 36 (.aload_n 0) 1 37 := ⟨by decide +kernel, rfl⟩
theorem own_d10_37 : own_D method_4_code 37 (.iconst 3) 1 38 := ⟨by decide +kernel, rfl⟩
theorem own_d10_38 : own_D method_4_code 38 (.iaload) 1 39 := ⟨by decide +kernel, rfl⟩
theorem own_d10_39 : own_D method_4_code 39 (.invokestatic 9) 3 42 := ⟨by decide +kernel, rfl⟩
theorem own_d10_42 : own_D method_4_code 42 (.istore_n 2) 1 43 := ⟨by decide +kernel, rfl⟩
theorem own_d10_43 : own_D method_4_code 43 (.iload_n 1) 1 44 := ⟨by decide +kernel, rfl⟩
theorem own_d10_44 : own_D method_4_code 44 (.iconst 4) 1 45 := ⟨by decide +kernel, rfl⟩
theorem own_d10_45 : own_B method_4_code 45 (.if_icmp .le 11) 11 48 56 := ⟨by decide +kernel, rfl, by decide, by decide⟩
theorem own_d10_48 : own_D method_4_code 48 (.iload_n 2) 1 49 := ⟨by decide +kernel, rfl⟩
theorem own_d10_49 : own_D method_4_code 49 (.aload_n 0) 1 50 := ⟨by decide +kernel, rfl⟩
theorem own_d10_50 : own_D method_4_code 50 (.iconst 4) 1 51 := ⟨by decide +kernel, rfl⟩
theorem own_d10_51 : own_D method_4_code 51 (.iaload) 1 52 := ⟨by decide +kernel, rfl⟩
theorem own_d10_52 : own_D method_4_code 52 (.invokestatic 9) 3 55 := ⟨by decide +kernel, rfl⟩
theorem own_d10_55 : own_D method_4_code 55 (.istore_n 2) 1 56 := ⟨by decide +kernel, rfl⟩
theorem own_d10_56 : own_D method_4_code 56 (.iload_n 1) 1 57 := ⟨by decide +kernel, rfl⟩
theorem own_d10_57 : own_D method_4_code 57 (.iconst 5) 1 58 := ⟨by decide +kernel, rfl⟩
theorem own_d10_58 : own_B method_4_code 58 (.if_icmp .le 11) 11 61 69 := ⟨by decide +kernel, rfl, by decide, by decide⟩
theorem own_d10_61 : own_D method_4_code 61 (.iload_n 2) 1 62 := ⟨by decide +kernel, rfl⟩
theorem own_d10_62 : own_D method_4_code 62 (.aload_n 0) 1 63 := ⟨by decide +kernel, rfl⟩
theorem own_d10_63 : own_D method_4_code 63 (.iconst 5) 1 64 := ⟨by decide +kernel, rfl⟩
theorem own_d10_64 : own_D method_4_code 64 (.iaload) 1 65 := ⟨by decide +kernel, rfl⟩
theorem own_d10_65 : own_D method_4_code 65 (.invokestatic 9) 3 68 := ⟨by decide +kernel, rfl⟩
theorem own_d10_68 : own_D method_4_code 68 (.istore_n 2) 1 69 := ⟨by decide +kernel, rfl⟩
theorem own_d10_69 : own_D method_4_code 69 (.iload_n 2) 1 70 := ⟨by decide +kernel, rfl⟩
theorem own_d10_70 : own_D method_4_code 70 (.ireturn) 1 71 := ⟨by decide +kernel, rfl⟩
theorem own_d11_0 : own_D code 0 (.bipush 6) 2 2 := ⟨by decide +kernel, rfl⟩
theorem own_d11_2 : own_D code 2 (.newarray .int) 2 4 := ⟨by decide +kernel, rfl⟩
theorem own_d11_4 : own_D code 4 (.astore_n 3) 1 5 := ⟨by decide +kernel, rfl⟩
theorem own_d11_5 : own_D code 5 (.aload_n 3) 1 6 := ⟨by decide +kernel, rfl⟩
theorem own_d11_6 : own_D code 6 (.iconst 0) 1 7 := ⟨by decide +kernel, rfl⟩
theorem own_d11_7 : own_D code 7 (.lload_n 0) 1 8 := ⟨by decide +kernel, rfl⟩
theorem own_d11_8 : own_D code 8 (.iconst 0) 1 9 := ⟨by decide +kernel, rfl⟩
theorem own_d11_9 : own_D code 9 (.invokestatic 15) 3 12 := ⟨by decide +kernel, rfl⟩
theorem own_d11_12 : own_D code 12 (.iastore) 1 13 := ⟨by decide +kernel, rfl⟩
theorem own_d11_13 : own_D code 13 (.aload_n 3) 1 14 := ⟨by decide +kernel, rfl⟩
theorem own_d11_14 : own_D code 14 (.iconst 1) 1 15 := ⟨by decide +kernel, rfl⟩
theorem own_d11_15 : own_D code 15 (.lload_n 0) 1 16 := ⟨by decide +kernel, rfl⟩
theorem own_d11_16 : own_D code 16 (.iconst 1) 1 17 := ⟨by decide +kernel, rfl⟩
theorem own_d11_17 : own_D code 17 (.invokestatic 15) 3 20 := ⟨by decide +kernel, rfl⟩
theorem own_d11_20 : own_D code 20 (.iastore) 1 21 := ⟨by decide +kernel, rfl⟩
theorem own_d11_21 : own_D code 21 (.aload_n 3) 1 22 := ⟨by decide +kernel, rfl⟩
theorem own_d11_22 : own_D code 22 (.iconst 2) 1 23 := ⟨by decide +kernel, rfl⟩
theorem own_d11_23 : own_D code 23 (.lload_n 0) 1 24 := ⟨by decide +kernel, rfl⟩
theorem own_d11_24 : own_D code 24 (.iconst 2) 1 25 := ⟨by decide +kernel, rfl⟩
theorem own_d11_25 : own_D code 25 (.invokestatic 15) 3 28 := ⟨by decide +kernel, rfl⟩
theorem own_d11_28 : own_D code 28 (.iastore) 1 29 := ⟨by decide +kernel, rfl⟩
theorem own_d11_29 : own_D code 29 (.aload_n 3) 1 30 := ⟨by decide +kernel, rfl⟩
theorem own_d11_30 : own_D code 30 (.iconst 3) 1 31 := ⟨by decide +kernel, rfl⟩
theorem own_d11_31 : own_D code 31 (.lload_n 0) 1 32 := ⟨by decide +kernel, rfl⟩
theorem own_d11_32 : own_D code 32 (.iconst 3) 1 33 := ⟨by decide +kernel, rfl⟩
theorem own_d11_33 : own_D code 33 (.invokestatic 15) 3 36 := ⟨by decide +kernel, rfl⟩
theorem own_d11_36 : own_D code 36 (.iastore) 1 37 := ⟨by decide +kernel, rfl⟩
theorem own_d11_37 : own_D code 37 (.aload_n 3) 1 38 := ⟨by decide +kernel, rfl⟩
theorem own_d11_38 : own_D code 38 (.iconst 4) 1 39 := ⟨by decide +kernel, rfl⟩
theorem own_d11_39 : own_D code 39 (.lload_n 0) 1 40 := ⟨by decide +kernel, rfl⟩
theorem own_d11_40 : own_D code 40 (.iconst 4) 1 41 := ⟨by decide +kernel, rfl⟩
theorem own_d11_41 : own_D code 41 (.invokestatic 15) 3 44 := ⟨by decide +kernel, rfl⟩
theorem own_d11_44 : own_D code 44 (.iastore) 1 45 := ⟨by decide +kernel, rfl⟩
theorem own_d11_45 : own_D code 45 (.aload_n 3) 1 46 := ⟨by decide +kernel, rfl⟩
theorem own_d11_46 : own_D code 46 (.iconst 5) 1 47 := ⟨by decide +kernel, rfl⟩
theorem own_d11_47 : own_D code 47 (.lload_n 0) 1 48 := ⟨by decide +kernel, rfl⟩
theorem own_d11_48 : own_D code 48 (.iconst 5) 1 49 := ⟨by decide +kernel, rfl⟩
theorem own_d11_49 : own_D code 49 (.invokestatic 15) 3 52 := ⟨by decide +kernel, rfl⟩
theorem own_d11_52 : own_D code 52 (.iastore) 1 53 := ⟨by decide +kernel, rfl⟩
theorem own_d11_53 : own_D code 53 (.bipush 6) 2 55 := ⟨by decide +kernel, rfl⟩
theorem own_d11_55 : own_D code 55 (.anewarray 21) 3 58 := ⟨by decide +kernel, rfl⟩
theorem own_d11_58 : own_D code 58 (.astore 4) 2 60 := ⟨by decide +kernel, rfl⟩
theorem own_d11_60 : own_D code 60 (.aload 4) 2 62 := ⟨by decide +kernel, rfl⟩
theorem own_d11_62 : own_D code 62 (.iconst 0) 1 63 := ⟨by decide +kernel, rfl⟩
theorem own_d11_63 : own_D code 63 (.new 21) 3 66 := ⟨by decide +kernel, rfl⟩
theorem own_d11_66 : own_D code 66 (.dup) 1 67 := ⟨by decide +kernel, rfl⟩
theorem own_d11_67 : own_D code 67 (.aload_n 3) 1 68 := ⟨by decide +kernel, rfl⟩
theorem own_d11_68 : own_D code 68 (.iconst 0) 1 69 := ⟨by decide +kernel, rfl⟩
theorem own_d11_69 : own_D code 69 (.iaload) 1 70 := ⟨by decide +kernel, rfl⟩
theorem own_d11_70 : own_D code 70 (.i2d) 1 71 := ⟨by decide +kernel, rfl⟩
theorem own_d11_71 : own_D code 71 (.aconst_null) 1 72 := ⟨by decide +kernel, rfl⟩
theorem own_d11_72 : own_D code 72 (.iconst 0) 1 73 := ⟨by decide +kernel, rfl⟩
theorem own_d11_73 : own_D code 73 (.iconst 1) 1 74 := ⟨by decide +kernel, rfl⟩
theorem own_d11_74 : own_D code 74 (.invokespecial 23) 3 77 := ⟨by decide +kernel, rfl⟩
theorem own_d11_77 : own_D code 77 (.aastore) 1 78 := ⟨by decide +kernel, rfl⟩
theorem own_d11_78 : own_D code 78 (.aload 4) 2 80 := ⟨by decide +kernel, rfl⟩
theorem own_d11_80 : own_D code 80 (.iconst 1) 1 81 := ⟨by decide +kernel, rfl⟩
theorem own_d11_81 : own_D code 81 (.new 21) 3 84 := ⟨by decide +kernel, rfl⟩
theorem own_d11_84 : own_D code 84 (.dup) 1 85 := ⟨by decide +kernel, rfl⟩
theorem own_d11_85 : own_D code 85 (.aload_n 3) 1 86 := ⟨by decide +kernel, rfl⟩
theorem own_d11_86 : own_D code 86 (.iconst 1) 1 87 := ⟨by decide +kernel, rfl⟩
theorem own_d11_87 : own_D code 87 (.iaload) 1 88 := ⟨by decide +kernel, rfl⟩
theorem own_d11_88 : own_D code 88 (.i2d) 1 89 := ⟨by decide +kernel, rfl⟩
theorem own_d11_89 : own_D code 89 (.aconst_null) 1 90 := ⟨by decide +kernel, rfl⟩
theorem own_d11_90 : own_D code 90 (.iconst 0) 1 91 := ⟨by decide +kernel, rfl⟩
theorem own_d11_91 : own_D code 91 (.iconst 1) 1 92 := ⟨by decide +kernel, rfl⟩
theorem own_d11_92 : own_D code 92 (.invokespecial 23) 3 95 := ⟨by decide +kernel, rfl⟩
theorem own_d11_95 : own_D code 95 (.aastore) 1 96 := ⟨by decide +kernel, rfl⟩
theorem own_d11_96 : own_D code 96 (.aload 4) 2 98 := ⟨by decide +kernel, rfl⟩
theorem own_d11_98 : own_D code 98 (.iconst 2) 1 99 := ⟨by decide +kernel, rfl⟩
theorem own_d11_99 : own_D code 99 (.new 21) 3 102 := ⟨by decide +kernel, rfl⟩
theorem own_d11_102 : own_D code 102 (.dup) 1 103 := ⟨by decide +kernel, rfl⟩
theorem own_d11_103 : own_D code 103 (.aload_n 3) 1 104 := ⟨by decide +kernel, rfl⟩
theorem own_d11_104 : own_D code 104 (.iconst 2) 1 105 := ⟨by decide +kernel, rfl⟩
theorem own_d11_105 : own_D code 105 (.iaload) 1 106 := ⟨by decide +kernel, rfl⟩
theorem own_d11_106 : own_D code 106 (.i2d) 1 107 := ⟨by decide +kernel, rfl⟩
theorem own_d11_107 : own_D code 107 (.aconst_null) 1 108 := ⟨by decide +kernel, rfl⟩
theorem own_d11_108 : own_D code 108 (.iconst 0) 1 109 := ⟨by decide +kernel, rfl⟩
theorem own_d11_109 : own_D code 109 (.iconst 1) 1 110 := ⟨by decide +kernel, rfl⟩
theorem own_d11_110 : own_D code 110 (.invokespecial 23) 3 113 := ⟨by decide +kernel, rfl⟩
theorem own_d11_113 : own_D code 113 (.aastore) 1 114 := ⟨by decide +kernel, rfl⟩
theorem own_d11_114 : own_D code 114 (.aload 4) 2 116 := ⟨by decide +kernel, rfl⟩
theorem own_d11_116 : own_D code 116 (.iconst 3) 1 117 := ⟨by decide +kernel, rfl⟩
theorem own_d11_117 : own_D code 117 (.new 21) 3 120 := ⟨by decide +kernel, rfl⟩
theorem own_d11_120 : own_D code 120 (.dup) 1 121 := ⟨by decide +kernel, rfl⟩
theorem own_d11_121 : own_D code 121 (.aload_n 3) 1 122 := ⟨by decide +kernel, rfl⟩
theorem own_d11_122 : own_D code 122 (.iconst 3) 1 123 := ⟨by decide +kernel, rfl⟩
theorem own_d11_123 : own_D code 123 (.iaload) 1 124 := ⟨by decide +kernel, rfl⟩
theorem own_d11_124 : own_D code 124 (.i2d) 1 125 := ⟨by decide +kernel, rfl⟩
theorem own_d11_125 : own_D code 125 (.aconst_null) 1 126 := ⟨by decide +kernel, rfl⟩
theorem own_d11_126 : own_D code 126 (.iconst 0) 1 127 := ⟨by decide +kernel, rfl⟩
theorem own_d11_127 : own_D code 127 (.iconst 1) 1 128 := ⟨by decide +kernel, rfl⟩
theorem own_d11_128 : own_D code 128 (.invokespecial 23) 3 131 := ⟨by decide +kernel, rfl⟩
theorem own_d11_131 : own_D code 131 (.aastore) 1 132 := ⟨by decide +kernel, rfl⟩
theorem own_d11_132 : own_D code 132 (.aload 4) 2 134 := ⟨by decide +kernel, rfl⟩
theorem own_d11_134 : own_D code 134 (.iconst 4) 1 135 := ⟨by decide +kernel, rfl⟩
theorem own_d11_135 : own_D code 135 (.new 21) 3 138 := ⟨by decide +kernel, rfl⟩
theorem own_d11_138 : own_D code 138 (.dup) 1 139 := ⟨by decide +kernel, rfl⟩
theorem own_d11_139 : own_D code 139 (.aload_n 3) 1 140 := ⟨by decide +kernel, rfl⟩
theorem own_d11_140 : own_D code 140 (.iconst 4) 1 141 := ⟨by decide +kernel, rfl⟩
theorem own_d11_141 : own_D code 141 (.iaload) 1 142 := ⟨by decide +kernel, rfl⟩
theorem own_d11_142 : own_D code 142 (.i2d) 1 143 := ⟨by decide +kernel, rfl⟩
theorem own_d11_143 : own_D code 143 (.aconst_null) 1 144 := ⟨by decide +kernel, rfl⟩
theorem own_d11_144 : own_D code 144 (.iconst 0) 1 145 := ⟨by decide +kernel, rfl⟩
theorem own_d11_145 : own_D code 145 (.iconst 1) 1 146 := ⟨by decide +kernel, rfl⟩
theorem own_d11_146 : own_D code 146 (.invokespecial 23) 3 149 := ⟨by decide +kernel, rfl⟩
theorem own_d11_149 : own_D code 149 (.aastore) 1 150 := ⟨by decide +kernel, rfl⟩
theorem own_d11_150 : own_D code 150 (.aload 4) 2 152 := ⟨by decide +kernel, rfl⟩
theorem own_d11_152 : own_D code 152 (.iconst 5) 1 153 := ⟨by decide +kernel, rfl⟩
theorem own_d11_153 : own_D code 153 (.new 21) 3 156 := ⟨by decide +kernel, rfl⟩
theorem own_d11_156 : own_D code 156 (.dup) 1 157 := ⟨by decide +kernel, rfl⟩
theorem own_d11_157 : own_D code 157 (.aload_n 3) 1 158 := ⟨by decide +kernel, rfl⟩
theorem own_d11_158 : own_D code 158 (.iconst 5) 1 159 := ⟨by decide +kernel, rfl⟩
theorem own_d11_159 : own_D code 159 (.iaload) 1 160 := ⟨by decide +kernel, rfl⟩
theorem own_d11_160 : own_D code 160 (.i2d) 1 161 := ⟨by decide +kernel, rfl⟩
theorem own_d11_161 : own_D code 161 (.aconst_null) 1 162 := ⟨by decide +kernel, rfl⟩
theorem own_d11_162 : own_D code 162 (.iconst 0) 1 163 := ⟨by decide +kernel, rfl⟩
theorem own_d11_163 : own_D code 163 (.iconst 1) 1 164 := ⟨by decide +kernel, rfl⟩
theorem own_d11_164 : own_D code 164 (.invokespecial 23) 3 167 := ⟨by decide +kernel, rfl⟩
theorem own_d11_167 : own_D code 167 (.aastore) 1 168 := ⟨by decide +kernel, rfl⟩
theorem own_d11_168 : own_D code 168 (.iload_n 2) 1 169 := ⟨by decide +kernel, rfl⟩
theorem own_d11_169 : own_D code 169 (.iconst 3) 1 170 := ⟨by decide +kernel, rfl⟩
theorem own_d11_170 : own_D code 170 (.iand) 1 171 := ⟨by decide +kernel, rfl⟩
theorem own_d11_171 : own_D code 171 (.istore 5) 2 173 := ⟨by decide +kernel, rfl⟩
theorem own_d11_173 : own_D code 173 (.iload 5) 2 175 := ⟨by decide +kernel, rfl⟩
theorem own_d11_175 : own_B code 175 (.ifCond .ne 8) 8 178 183 := ⟨by decide +kernel, rfl, by decide, by decide⟩
theorem own_d11_178 : own_D code 178 (.bipush 6) 2 180 := ⟨by decide +kernel, rfl⟩
theorem own_d11_180 : own_B code 180 (.goto 24) 24 183 204 := ⟨by decide +kernel, rfl, by decide, by decide⟩
theorem own_d11_204 : own_D code 204 (.istore 6) 2 206 := ⟨by decide +kernel, rfl⟩
theorem own_d11_206 : own_D code 206 (.new 26) 3 209 := ⟨by decide +kernel, rfl⟩
theorem own_d11_209 : own_D code 209 (.dup) 1 210 := ⟨by decide +kernel, rfl⟩
theorem own_d11_210 : own_D code 210 (.invokespecial 28) 3 213 := ⟨by decide +kernel, rfl⟩
theorem own_d11_213 : own_D code 213 (.astore 7) 2 215 := ⟨by decide +kernel, rfl⟩
theorem own_d11_215 : own_D code 215 (.aload 7) 2 217 := ⟨by decide +kernel, rfl⟩
theorem own_d11_217 : own_D code 217 (.aload 4) 2 219 := ⟨by decide +kernel, rfl⟩
theorem own_d11_219 : own_D code 219 (.iconst 0) 1 220 := ⟨by decide +kernel, rfl⟩
theorem own_d11_220 : own_D code 220 (.aaload) 1 221 := ⟨by decide +kernel, rfl⟩
theorem own_d11_221 : own_D code 221 (.invokevirtual 29) 3 224 := ⟨by decide +kernel, rfl⟩
theorem own_d11_224 : own_D code 224 (.iload 6) 2 226 := ⟨by decide +kernel, rfl⟩
theorem own_d11_226 : own_D code 226 (.iconst 1) 1 227 := ⟨by decide +kernel, rfl⟩
theorem own_d11_227 : own_B code 227 (.if_icmp .le 12) 12 230 239 := ⟨by decide +kernel, rfl, by decide, by decide⟩
theorem own_d11_230 : own_D code 230 (.aload 7) 2 232 := ⟨by decide +kernel, rfl⟩
theorem own_d11_232 : own_D code 232 (.aload 4) 2 234 := ⟨by decide +kernel, rfl⟩
theorem own_d11_234 : own_D code 234 (.iconst 1) 1 235 := ⟨by decide +kernel, rfl⟩
theorem own_d11_235 : own_D code 235 (.aaload) 1 236 := ⟨by decide +kernel, rfl⟩
theorem own_d11_236 : own_D code 236 (.invokevirtual 29) 3 239 := ⟨by decide +kernel, rfl⟩
theorem own_d11_239 : own_D code 239 (.iload 6) 2 241 := ⟨by decide +kernel, rfl⟩
theorem own_d11_241 : own_D code 241 (.iconst 2) 1 242 := ⟨by decide +kernel, rfl⟩
theorem own_d11_242 : own_B code 242 (.if_icmp .le 12) 12 245 254 := ⟨by decide +kernel, rfl, by decide, by decide⟩
theorem own_d11_245 : own_D code 245 (.aload 7) 2 247 := ⟨by decide +kernel, rfl⟩
theorem own_d11_247 : own_D code 247 (.aload 4) 2 249 := ⟨by decide +kernel, rfl⟩
theorem own_d11_249 : own_D code 249 (.iconst 2) 1 250 := ⟨by decide +kernel, rfl⟩
theorem own_d11_250 : own_D code 250 (.aaload) 1 251 := ⟨by decide +kernel, rfl⟩
theorem own_d11_251 : own_D code 251 (.invokevirtual 29) 3 254 := ⟨by decide +kernel, rfl⟩
theorem own_d11_254 : own_D code 254 (.iload 6) 2 256 := ⟨by decide +kernel, rfl⟩
theorem own_d11_256 : own_D code 256 (.iconst 3) 1 257 := ⟨by decide +kernel, rfl⟩
theorem own_d11_257 : own_B code 257 (.if_icmp .le 12) 12 260 269 := ⟨by decide +kernel, rfl, by decide, by decide⟩
theorem own_d11_260 : own_D code 260 (.aload 7) 2 262 := ⟨by decide +kernel, rfl⟩
theorem own_d11_262 : own_D code 262 (.aload 4) 2 264 := ⟨by decide +kernel, rfl⟩
theorem own_d11_264 : own_D code 264 (.iconst 3) 1 265 := ⟨by decide +kernel, rfl⟩
theorem own_d11_265 : own_D code 265 (.aaload) 1 266 := ⟨by decide +kernel, rfl⟩
theorem own_d11_266 : own_D code 266 (.invokevirtual 29) 3 269 := ⟨by decide +kernel, rfl⟩
theorem own_d11_269 : own_D code 269 (.iload 6) 2 271 := ⟨by decide +kernel, rfl⟩
theorem own_d11_271 : own_D code 271 (.iconst 4) 1 272 := ⟨by decide +kernel, rfl⟩
theorem own_d11_272 : own_B code 272 (.if_icmp .le 12) 12 275 284 := ⟨by decide +kernel, rfl, by decide, by decide⟩
theorem own_d11_275 : own_D code 275 (.aload 7) 2 277 := ⟨by decide +kernel, rfl⟩
theorem own_d11_277 : own_D code 277 (.aload 4) 2 279 := ⟨by decide +kernel, rfl⟩
theorem own_d11_279 : own_D code 279 (.iconst 4) 1 280 := ⟨by decide +kernel, rfl⟩
theorem own_d11_280 : own_D code 280 (.aaload) 1 281 := ⟨by decide +kernel, rfl⟩
theorem own_d11_281 : own_D code 281 (.invokevirtual 29) 3 284 := ⟨by decide +kernel, rfl⟩
theorem own_d11_284 : own_D code 284 (.iload 6) 2 286 := ⟨by decide +kernel, rfl⟩
theorem own_d11_286 : own_D code 286 (.iconst 5) 1 287 := ⟨by decide +kernel, rfl⟩
theorem own_d11_287 : own_B code 287 (.if_icmp .le 12) 12 290 299 := ⟨by decide +kernel, rfl, by decide, by decide⟩
theorem own_d11_290 : own_D code 290 (.aload 7) 2 292 := ⟨by decide +kernel, rfl⟩
theorem own_d11_292 : own_D code 292 (.aload 4) 2 294 := ⟨by decide +kernel, rfl⟩
theorem own_d11_294 : own_D code 294 (.iconst 5) 1 295 := ⟨by decide +kernel, rfl⟩
theorem own_d11_295 : own_D code 295 (.aaload) 1 296 := ⟨by decide +kernel, rfl⟩
theorem own_d11_296 : own_D code 296 (.invokevirtual 29) 3 299 := ⟨by decide +kernel, rfl⟩
theorem own_d11_299 : own_D code 299 (.aload 7) 2 301 := ⟨by decide +kernel, rfl⟩
theorem own_d11_301 : own_D code 301 (.invokevirtual 33) 3 304 := ⟨by decide +kernel, rfl⟩
theorem own_d11_304 : own_D code 304 (.astore 8) 2 306 := ⟨by decide +kernel, rfl⟩
theorem own_d11_306 : own_D code 306 (.iload 6) 2 308 := ⟨by decide +kernel, rfl⟩
theorem own_d11_308 : own_D code 308 (.iconst 1) 1 309 := ⟨by decide +kernel, rfl⟩
theorem own_d11_309 : own_B code 309 (.if_icmp .gt 12) 12 312 321 := ⟨by decide +kernel, rfl, by decide, by decide⟩
theorem own_d11_321 : own_D code 321 (.iload 6) 2 323 := ⟨by decide +kernel, rfl⟩
theorem own_d11_323 : own_D code 323 (.iconst 2) 1 324 := ⟨by decide +kernel, rfl⟩
theorem own_d11_324 : own_B code 324 (.if_icmp .gt 12) 12 327 336 := ⟨by decide +kernel, rfl, by decide, by decide⟩
theorem own_d11_336 : own_D code 336 (.iload 6) 2 338 := ⟨by decide +kernel, rfl⟩
theorem own_d11_338 : own_D code 338 (.iconst 3) 1 339 := ⟨by decide +kernel, rfl⟩
theorem own_d11_339 : own_B code 339 (.if_icmp .gt 12) 12 342 351 := ⟨by decide +kernel, rfl, by decide, by decide⟩
theorem own_d11_351 : own_D code 351 (.iload 6) 2 353 := ⟨by decide +kernel, rfl⟩
theorem own_d11_353 : own_D code 353 (.iconst 4) 1 354 := ⟨by decide +kernel, rfl⟩
theorem own_d11_354 : own_B code 354 (.if_icmp .gt 12) 12 357 366 := ⟨by decide +kernel, rfl, by decide, by decide⟩
theorem own_d11_366 : own_D code 366 (.iload 6) 2 368 := ⟨by decide +kernel, rfl⟩
theorem own_d11_368 : own_D code 368 (.iconst 5) 1 369 := ⟨by decide +kernel, rfl⟩
theorem own_d11_369 : own_B code 369 (.if_icmp .gt 12) 12 372 381 := ⟨by decide +kernel, rfl, by decide, by decide⟩
theorem own_d11_381 : own_D code 381 (.aload 7) 2 383 := ⟨by decide +kernel, rfl⟩
theorem own_d11_383 : own_D code 383 (.invokevirtual 33) 3 386 := ⟨by decide +kernel, rfl⟩
theorem own_d11_386 : own_D code 386 (.astore 9) 2 388 := ⟨by decide +kernel, rfl⟩
theorem own_d11_388 : own_D code 388 (.aload 7) 2 390 := ⟨by decide +kernel, rfl⟩
theorem own_d11_390 : own_D code 390 (.invokevirtual 33) 3 393 := ⟨by decide +kernel, rfl⟩
theorem own_d11_393 : own_D code 393 (.astore 10) 2 395 := ⟨by decide +kernel, rfl⟩
theorem own_d11_395 : own_D code 395 (.aload 7) 2 397 := ⟨by decide +kernel, rfl⟩
theorem own_d11_397 : own_D code 397 (.invokevirtual 33) 3 400 := ⟨by decide +kernel, rfl⟩
theorem own_d11_400 : own_D code 400 (.astore 11) 2 402 := ⟨by decide +kernel, rfl⟩
theorem own_d11_402 : own_D code 402 (.aload 7) 2 404 := ⟨by decide +kernel, rfl⟩
theorem own_d11_404 : own_D code 404 (.invokevirtual 33) 3 407 := ⟨by decide +kernel, rfl⟩
theorem own_d11_407 : own_D code 407 (.astore 12) 2 409 := ⟨by decide +kernel, rfl⟩
theorem own_d11_409 : own_D code 409 (.aload 7) 2 411 := ⟨by decide +kernel, rfl⟩
theorem own_d11_411 : own_D code 411 (.invokevirtual 33) 3 414 := ⟨by decide +kernel, rfl⟩
theorem own_d11_414 : own_D code 414 (.astore 13) 2 416 := ⟨by decide +kernel, rfl⟩
theorem own_d11_416 : own_D code 416 (.aload 7) 2 418 := ⟨by decide +kernel, rfl⟩
theorem own_d11_418 : own_D code 418 (.invokevirtual 37) 3 421 := ⟨by decide +kernel, rfl⟩
theorem own_d11_421 : own_D code 421 (.istore 14) 2 423 := ⟨by decide +kernel, rfl⟩
theorem own_d11_423 : own_D code 423 (.aload 8) 2 425 := ⟨by decide +kernel, rfl⟩
theorem own_d11_425 : own_D code 425 (.aload 4) 2 427 := ⟨by decide +kernel, rfl⟩
theorem own_d11_427 : own_D code 427 (.invokestatic 41) 3 430 := ⟨by decide +kernel, rfl⟩
theorem own_d11_430 : own_D code 430 (.istore 15) 2 432 := ⟨by decide +kernel, rfl⟩
theorem own_d11_432 : own_D code 432 (.aload 9) 2 434 := ⟨by decide +kernel, rfl⟩
theorem own_d11_434 : own_D code 434 (.aload 4) 2 436 := ⟨by decide +kernel, rfl⟩
theorem own_d11_436 : own_D code 436 (.invokestatic 41) 3 439 := ⟨by decide +kernel, rfl⟩
theorem own_d11_439 : own_D code 439 (.istore 16) 2 441 := ⟨by decide +kernel, rfl⟩
theorem own_d11_441 : own_D code 441 (.aload 10) 2 443 := ⟨by decide +kernel, rfl⟩
theorem own_d11_443 : own_D code 443 (.aload 4) 2 445 := ⟨by decide +kernel, rfl⟩
theorem own_d11_445 : own_D code 445 (.invokestatic 41) 3 448 := ⟨by decide +kernel, rfl⟩
theorem own_d11_448 : own_D code 448 (.istore 17) 2 450 := ⟨by decide +kernel, rfl⟩
theorem own_d11_450 : own_D code 450 (.aload 11) 2 452 := ⟨by decide +kernel, rfl⟩
theorem own_d11_452 : own_D code 452 (.aload 4) 2 454 := ⟨by decide +kernel, rfl⟩
theorem own_d11_454 : own_D code 454 (.invokestatic 41) 3 457 := ⟨by decide +kernel, rfl⟩
theorem own_d11_457 : own_D code 457 (.istore 18) 2 459 := ⟨by decide +kernel, rfl⟩
theorem own_d11_459 : own_D code 459 (.aload 12) 2 461 := ⟨by decide +kernel, rfl⟩
theorem own_d11_461 : own_D code 461 (.aload 4) 2 463 := ⟨by decide +kernel, rfl⟩
theorem own_d11_463 : own_D code 463 (.invokestatic 41) 3 466 := ⟨by decide +kernel, rfl⟩
theorem own_d11_466 : own_D code 466 (.istore 19) 2 468 := ⟨by decide +kernel, rfl⟩
theorem own_d11_468 : own_D code 468 (.aload 13) 2 470 := ⟨by decide +kernel, rfl⟩
theorem own_d11_470 : own_D code 470 (.aload 4) 2 472 := ⟨by decide +kernel, rfl⟩
theorem own_d11_472 : own_D code 472 (.invokestatic 41) 3 475 := ⟨by decide +kernel, rfl⟩
theorem own_d11_475 : own_D code 475 (.istore 20) 2 477 := ⟨by decide +kernel, rfl⟩
theorem own_d11_477 : own_D code 477 (.iload 15) 2 479 := ⟨by decide +kernel, rfl⟩
theorem own_d11_479 : own_B code 479 (.ifCond .lt 28) 28 482 507 := ⟨by decide +kernel, rfl, by decide, by decide⟩
theorem own_d11_482 : own_D code 482 (.iload 16) 2 484 := ⟨by decide +kernel, rfl⟩
theorem own_d11_484 : own_B code 484 (.ifCond .lt 23) 23 487 507 := ⟨by decide +kernel, rfl, by decide, by decide⟩
theorem own_d11_487 : own_D code 487 (.iload 17) 2 489 := ⟨by decide +kernel, rfl⟩
theorem own_d11_489 : own_B code 489 (.ifCond .lt 18) 18 492 507 := ⟨by decide +kernel, rfl, by decide, by decide⟩
theorem own_d11_492 : own_D code 492 (.iload 18) 2 494 := ⟨by decide +kernel, rfl⟩
theorem own_d11_494 : own_B code 494 (.ifCond .lt 13) 13 497 507 := ⟨by decide +kernel, rfl, by decide, by decide⟩
theorem own_d11_497 : own_D code 497 (.iload 19) 2 499 := ⟨by decide +kernel, rfl⟩
theorem own_d11_499 : own_B code 499 (.ifCond .lt 8) 8 502 507 := ⟨by decide +kernel, rfl, by decide, by decide⟩
theorem own_d11_502 : own_D code 502 (.iload 20) 2 504 := ⟨by decide +kernel, rfl⟩
theorem own_d11_504 : own_B code 504 (.ifCond .ge 5) 5 507 509 := ⟨by decide +kernel, rfl, by decide, by decide⟩
theorem own_d11_509 : own_D code 509 (.iconst 1) 1 510 := ⟨by decide +kernel, rfl⟩
theorem own_d11_510 : own_D code 510 (.iload 15) 2 512 := ⟨by decide +kernel, rfl⟩
theorem own_d11_512 : own_D code 512 (.ishl) 1 513 := ⟨by decide +kernel, rfl⟩
theorem own_d11_513 : own_D code 513 (.iconst 1) 1 514 := ⟨by decide +kernel, rfl⟩
theorem own_d11_514 : own_D code 514 (.iload 16) 2 516 := ⟨by decide +kernel, rfl⟩
theorem own_d11_516 : own_D code 516 (.ishl) 1 517 := ⟨by decide +kernel, rfl⟩
theorem own_d11_517 : own_D code 517 (.ior) 1 518 := ⟨by decide +kernel, rfl⟩
theorem own_d11_518 : own_D code 518 (.iconst 1) 1 519 := ⟨by decide +kernel, rfl⟩
theorem own_d11_519 : own_D code 519 (.iload 17) 2 521 := ⟨by decide +kernel, rfl⟩
theorem own_d11_521 : own_D code 521 (.ishl) 1 522 := ⟨by decide +kernel, rfl⟩
theorem own_d11_522 : own_D code 522 (.ior) 1 523 := ⟨by decide +kernel, rfl⟩
theorem own_d11_523 : own_D code 523 (.iconst 1) 1 524 := ⟨by decide +kernel, rfl⟩
theorem own_d11_524 : own_D code 524 (.iload 18) 2 526 := ⟨by decide +kernel, rfl⟩
theorem own_d11_526 : own_D code 526 (.ishl) 1 527 := ⟨by decide +kernel, rfl⟩
theorem own_d11_527 : own_D code 527 (.ior) 1 528 := ⟨by decide +kernel, rfl⟩
theorem own_d11_528 : own_D code 528 (.iconst 1) 1 529 := ⟨by decide +kernel, rfl⟩
theorem own_d11_529 : own_D code 529 (.iload 19) 2 531 := ⟨by decide +kernel, rfl⟩
theorem own_d11_531 : own_D code 531 (.ishl) 1 532 := ⟨by decide +kernel, rfl⟩
theorem own_d11_532 : own_D code 532 (.ior) 1 533 := ⟨by decide +kernel, rfl⟩
theorem own_d11_533 : own_D code 533 (.iconst 1) 1 534 := ⟨by decide +kernel, rfl⟩
theorem own_d11_534 : own_D code 534 (.iload 20) 2 536 := ⟨by decide +kernel, rfl⟩
theorem own_d11_536 : own_D code 536 (.ishl) 1 537 := ⟨by decide +kernel, rfl⟩
theorem own_d11_537 : own_D code 537 (.ior) 1 538 := ⟨by decide +kernel, rfl⟩
theorem own_d11_538 : own_D code 538 (.bipush 63) 2 540 := ⟨by decide +kernel, rfl⟩
theorem own_d11_540 : own_B code 540 (.if_icmp .eq 5) 5 543 545 := ⟨by decide +kernel, rfl, by decide, by decide⟩
theorem own_d11_545 : own_D code 545 (.iload 15) 2 547 := ⟨by decide +kernel, rfl⟩
theorem own_d11_547 : own_D code 547 (.iload 6) 2 549 := ⟨by decide +kernel, rfl⟩
theorem own_d11_549 : own_B code 549 (.if_icmp .lt 5) 5 552 554 := ⟨by decide +kernel, rfl, by decide, by decide⟩
theorem own_d11_554 : own_D code 554 (.aload_n 3) 1 555 := ⟨by decide +kernel, rfl⟩
theorem own_d11_555 : own_D code 555 (.iload 15) 2 557 := ⟨by decide +kernel, rfl⟩
theorem own_d11_557 : own_D code 557 (.iaload) 1 558 := ⟨by decide +kernel, rfl⟩
theorem own_d11_558 : own_D code 558 (.istore 21) 2 560 := ⟨by decide +kernel, rfl⟩
theorem own_d11_560 : own_D code 560 (.aload_n 3) 1 561 := ⟨by decide +kernel, rfl⟩
theorem own_d11_561 : own_D code 561 (.iload 16) 2 563 := ⟨by decide +kernel, rfl⟩
theorem own_d11_563 : own_D code 563 (.iaload) 1 564 := ⟨by decide +kernel, rfl⟩
theorem own_d11_564 : own_D code 564 (.istore 22) 2 566 := ⟨by decide +kernel, rfl⟩
theorem own_d11_566 : own_D code 566 (.aload_n 3) 1 567 := ⟨by decide +kernel, rfl⟩
theorem own_d11_567 : own_D code 567 (.iload 17) 2 569 := ⟨by decide +kernel, rfl⟩
theorem own_d11_569 : own_D code 569 (.iaload) 1 570 := ⟨by decide +kernel, rfl⟩
theorem own_d11_570 : own_D code 570 (.istore 23) 2 572 := ⟨by decide +kernel, rfl⟩
theorem own_d11_572 : own_D code 572 (.aload_n 3) 1 573 := ⟨by decide +kernel, rfl⟩
theorem own_d11_573 : own_D code 573 (.iload 18) 2 575 := ⟨by decide +kernel, rfl⟩
theorem own_d11_575 : own_D code 575 (.iaload) 1 576 := ⟨by decide +kernel, rfl⟩
theorem own_d11_576 : own_D code 576 (.istore 24) 2 578 := ⟨by decide +kernel, rfl⟩
theorem own_d11_578 : own_D code 578 (.aload_n 3) 1 579 := ⟨by decide +kernel, rfl⟩
theorem own_d11_579 : own_D code 579 (.iload 19) 2 581 := ⟨by decide +kernel, rfl⟩
theorem own_d11_581 : own_D code 581 (.iaload) 1 582 := ⟨by decide +kernel, rfl⟩
theorem own_d11_582 : own_D code 582 (.istore 25) 2 584 := ⟨by decide +kernel, rfl⟩
theorem own_d11_584 : own_D code 584 (.aload_n 3) 1 585 := ⟨by decide +kernel, rfl⟩
theorem own_d11_585 : own_D code 585 (.iload 20) 2 587 := ⟨by decide +kernel, rfl⟩
theorem own_d11_587 : own_D code 587 (.iaload) 1 588 := ⟨by decide +kernel, rfl⟩
theorem own_d11_588 : own_D code 588 (.istore 26) 2 590 := ⟨by decide +kernel, rfl⟩
theorem own_d11_590 : own_D code 590 (.iload 21) 2 592 := ⟨by decide +kernel, rfl⟩
theorem own_d11_592 : own_D code 592 (.aload_n 3) 1 593 := ⟨by decide +kernel, rfl⟩
theorem own_d11_593 : own_D code 593 (.iload 6) 2 595 := ⟨by decide +kernel, rfl⟩
theorem own_d11_595 : own_D code 595 (.invokestatic 45) 3 598 := ⟨by decide +kernel, rfl⟩
theorem own_d11_598 : own_B code 598 (.if_icmp .le 5) 5 601 603 := ⟨by decide +kernel, rfl, by decide, by decide⟩
theorem own_d11_603 : own_D code 603 (.iload 6) 2 605 := ⟨by decide +kernel, rfl⟩
theorem own_d11_605 : own_D code 605 (.bipush 6) 2 607 := ⟨by decide +kernel, rfl⟩
theorem own_d11_607 : own_B code 607 (.if_icmp .ne 12) 12 610 619 := ⟨by decide +kernel, rfl, by decide, by decide⟩
theorem own_d11_610 : own_D code 610 (.iload 21) 2 612 := ⟨by decide +kernel, rfl⟩
theorem own_d11_612 : own_D code 612 (.iload 22) 2 614 := ⟨by decide +kernel, rfl⟩
theorem own_d11_614 : own_B code 614 (.if_icmp .le 5) 5 617 619 := ⟨by decide +kernel, rfl, by decide, by decide⟩
theorem own_d11_619 : own_D code 619 (.iload 22) 2 621 := ⟨by decide +kernel, rfl⟩
theorem own_d11_621 : own_D code 621 (.iload 23) 2 623 := ⟨by decide +kernel, rfl⟩
theorem own_d11_623 : own_B code 623 (.if_icmp .gt 33) 33 626 656 := ⟨by decide +kernel, rfl, by decide, by decide⟩
theorem own_d11_626 : own_D code 626 (.iload 23) 2 628 := ⟨by decide +kernel, rfl⟩
theorem own_d11_628 : own_D code 628 (.iload 24) 2 630 := ⟨by decide +kernel, rfl⟩
theorem own_d11_630 : own_B code 630 (.if_icmp .gt 26) 26 633 656 := ⟨by decide +kernel, rfl, by decide, by decide⟩
theorem own_d11_633 : own_D code 633 (.iload 24) 2 635 := ⟨by decide +kernel, rfl⟩
theorem own_d11_635 : own_D code 635 (.iload 25) 2 637 := ⟨by decide +kernel, rfl⟩
theorem own_d11_637 : own_B code 637 (.if_icmp .gt 19) 19 640 656 := ⟨by decide +kernel, rfl, by decide, by decide⟩
theorem own_d11_640 : own_D code 640 (.iload 25) 2 642 := ⟨by decide +kernel, rfl⟩
theorem own_d11_642 : own_D code 642 (.iload 26) 2 644 := ⟨by decide +kernel, rfl⟩
theorem own_d11_644 : own_B code 644 (.if_icmp .gt 12) 12 647 656 := ⟨by decide +kernel, rfl, by decide, by decide⟩
theorem own_d11_647 : own_D code 647 (.iload 14) 2 649 := ⟨by decide +kernel, rfl⟩
theorem own_d11_649 : own_B code 649 (.ifCond .eq 7) 7 652 656 := ⟨by decide +kernel, rfl, by decide, by decide⟩
theorem own_d11_652 : own_D code 652 (.iconst 1) 1 653 := ⟨by decide +kernel, rfl⟩
theorem own_d11_653 : own_B code 653 (.goto 4) 4 656 657 := ⟨by decide +kernel, rfl, by decide, by decide⟩
theorem own_d11_657 : own_D code 657 (.ireturn) 1 658 := ⟨by decide +kernel, rfl⟩
theorem own_d11_183 : own_D code 183 (.iload 5) 2 185 := ⟨by decide +kernel, rfl⟩
theorem own_d11_185 : own_D code 185 (.iconst 1) 1 186 := ⟨by decide +kernel, rfl⟩
theorem own_d11_186 : own_B code 186 (.if_icmp .ne 7) 7 189 193 := ⟨by decide +kernel, rfl, by decide, by decide⟩
theorem own_d11_189 : own_D code 189 (.iconst 5) 1 190 := ⟨by decide +kernel, rfl⟩
theorem own_d11_190 : own_B code 190 (.goto 14) 14 193 204 := ⟨by decide +kernel, rfl, by decide, by decide⟩
theorem own_d11_372 : own_D code 372 (.aload 7) 2 374 := ⟨by decide +kernel, rfl⟩
theorem own_d11_374 : own_D code 374 (.aload 4) 2 376 := ⟨by decide +kernel, rfl⟩
theorem own_d11_376 : own_D code 376 (.iconst 5) 1 377 := ⟨by decide +kernel, rfl⟩
theorem own_d11_377 : own_D code 377 (.aaload) 1 378 := ⟨by decide +kernel, rfl⟩
theorem own_d11_378 : own_D code 378 (.invokevirtual 29) 3 381 := ⟨by decide +kernel, rfl⟩
theorem own_d11_193 : own_D code 193 (.iload 5) 2 195 := ⟨by decide +kernel, rfl⟩
theorem own_d11_195 : own_D code 195 (.iconst 2) 1 196 := ⟨by decide +kernel, rfl⟩
theorem own_d11_196 : own_B code 196 (.if_icmp .ne 7) 7 199 203 := ⟨by decide +kernel, rfl, by decide, by decide⟩
theorem own_d11_199 : own_D code 199 (.iconst 3) 1 200 := ⟨by decide +kernel, rfl⟩
theorem own_d11_200 : own_B code 200 (.goto 4) 4 203 204 := ⟨by decide +kernel, rfl, by decide, by decide⟩
theorem own_d11_342 : own_D code 342 (.aload 7) 2 344 := ⟨by decide +kernel, rfl⟩
theorem own_d11_344 : own_D code 344 (.aload 4) 2 346 := ⟨by decide +kernel, rfl⟩
theorem own_d11_346 : own_D code 346 (.iconst 3) 1 347 := ⟨by decide +kernel, rfl⟩
theorem own_d11_347 : own_D code 347 (.aaload) 1 348 := ⟨by decide +kernel, rfl⟩
theorem own_d11_348 : own_D code 348 (.invokevirtual 29) 3 351 := ⟨by decide +kernel, rfl⟩
theorem own_d11_357 : own_D code 357 (.aload 7) 2 359 := ⟨by decide +kernel, rfl⟩
theorem own_d11_359 : own_D code 359 (.aload 4) 2 361 := ⟨by decide +kernel, rfl⟩
theorem own_d11_361 : own_D code 361 (.iconst 4) 1 362 := ⟨by decide +kernel, rfl⟩
theorem own_d11_362 : own_D code 362 (.aaload) 1 363 := ⟨by decide +kernel, rfl⟩
theorem own_d11_363 : own_D code 363 (.invokevirtual 29) 3 366 := ⟨by decide +kernel, rfl⟩
theorem own_d11_203 : own_D code 203 (.iconst 1) 1 204 := ⟨by decide +kernel, rfl⟩
theorem own_d11_312 : own_D code 312 (.aload 7) 2 314 := ⟨by decide +kernel, rfl⟩
theorem own_d11_314 : own_D code 314 (.aload 4) 2 316 := ⟨by decide +kernel, rfl⟩
theorem own_d11_316 : own_D code 316 (.iconst 1) 1 317 := ⟨by decide +kernel, rfl⟩
theorem own_d11_317 : own_D code 317 (.aaload) 1 318 := ⟨by decide +kernel, rfl⟩
theorem own_d11_318 : own_D code 318 (.invokevirtual 29) 3 321 := ⟨by decide +kernel, rfl⟩
theorem own_d11_327 : own_D code 327 (.aload 7) 2 329 := ⟨by decide +kernel, rfl⟩
theorem own_d11_329 : own_D code 329 (.aload 4) 2 331 := ⟨by decide +kernel, rfl⟩
theorem own_d11_331 : own_D code 331 (.iconst 2) 1 332 := ⟨by decide +kernel, rfl⟩
theorem own_d11_332 : own_D code 332 (.aaload) 1 333 := ⟨by decide +kernel, rfl⟩
theorem own_d11_333 : own_D code 333 (.invokevirtual 29) 3 336 := ⟨by decide +kernel, rfl⟩
theorem own_pd0 : parseMethodDescriptor "()D" = some ⟨[], some .double⟩ := by decide +kernel
theorem own_pd1 : parseMethodDescriptor "()V" = some ⟨[], none⟩ := by decide +kernel
theorem own_pd2 : parseMethodDescriptor "(II)I" = some ⟨[.int, .int], some .int⟩ := by decide +kernel
theorem own_pd3 : parseMethodDescriptor "(JI)I" = some ⟨[.long, .int], some .int⟩ := by decide +kernel
theorem own_pd4 : parseMethodDescriptor "(DLcom/example/slotwise/slotwise/Route;II)V" = some ⟨[.double, (.object "com/example/slotwise/slotwise/Route"), .int, .int], none⟩ := by decide +kernel
theorem own_pd5 : parseMethodDescriptor "(Lcom/example/slotwise/slotwise/Simulation$Connection;)V" = some ⟨[(.object "com/example/slotwise/slotwise/Simulation$Connection")], none⟩ := by decide +kernel
theorem own_pd6 : parseMethodDescriptor "()Lcom/example/slotwise/slotwise/Simulation$Connection;" = some ⟨[], some (.object "com/example/slotwise/slotwise/Simulation$Connection")⟩ := by decide +kernel
theorem own_pd7 : parseMethodDescriptor "()Z" = some ⟨[], some .boolean⟩ := by decide +kernel
theorem own_pd8 : parseMethodDescriptor "(Lcom/example/slotwise/slotwise/Simulation$Connection;[Lcom/example/slotwise/slotwise/Simulation$Connection;)I" = some ⟨[(.object "com/example/slotwise/slotwise/Simulation$Connection"), (.array (.object "com/example/slotwise/slotwise/Simulation$Connection"))], some .int⟩ := by decide +kernel
theorem own_pd9 : parseMethodDescriptor "([II)I" = some ⟨[(.array .int), .int], some .int⟩ := by decide +kernel
abbrev own_DP (a : Addr) (f0 f1 f2 : Value) : own_O := (a, "com/example/slotwise/slotwise/Departures", [("com/example/slotwise/slotwise/Departures", "times", "[D", f0), ("com/example/slotwise/slotwise/Departures", "connections", "[Lcom/example/slotwise/slotwise/Simulation$Connection;", f1), ("com/example/slotwise/slotwise/Departures", "size", "I", f2)])
theorem own_DP_F {Z : State} {a0 : Array Value} (hw : own_Z Z a0) : ∀ f ∈ ([("com/example/slotwise/slotwise/Departures", "times", "[D", .null), ("com/example/slotwise/slotwise/Departures", "connections", "[Lcom/example/slotwise/slotwise/Simulation$Connection;", .null), ("com/example/slotwise/slotwise/Departures", "size", "I", (.int (0 : Int32)))] : List (String × String × String × Value)), Laid Z a0 "com/example/slotwise/slotwise/Departures" f.1 f.2.1 f.2.2.1 ∧ ∃ ty, parseFieldDescriptor f.2.2.1 = some ty ∧ f.2.2.2 = defaultValue ty := by
  intro f hf
  simp only [List.mem_cons, List.not_mem_nil, or_false] at hf
  rcases hf with rfl | rfl | rfl
  · exact ⟨Or.inl (own_w39 hw), (.array .double), by decide +kernel, rfl⟩
  · exact ⟨Or.inl (own_w42 hw), (.array (.object "com/example/slotwise/slotwise/Simulation$Connection")), by decide +kernel, rfl⟩
  · exact ⟨Or.inl (own_w49 hw), .int, by decide +kernel, rfl⟩
theorem own_DP_P {Z : State} {a0 : Array Value} (hw : own_Z Z a0) : ([("com/example/slotwise/slotwise/Departures", "times", "[D", .null), ("com/example/slotwise/slotwise/Departures", "connections", "[Lcom/example/slotwise/slotwise/Simulation$Connection;", .null), ("com/example/slotwise/slotwise/Departures", "size", "I", (.int (0 : Int32)))] : List (String × String × String × Value)).Pairwise (fun f g => Jvm.RoadKit.slotOf Z f.1 f.2.1 f.2.2.1 ≠ Jvm.RoadKit.slotOf Z g.1 g.2.1 g.2.2.1) := by
  simp only [List.pairwise_cons, List.mem_cons, List.not_mem_nil, or_false, forall_eq_or_imp, forall_eq, List.Pairwise.nil, and_true, false_implies, implies_true]
  exact ⟨⟨slot_ne (C := "com/example/slotwise/slotwise/Departures") (Or.inl (own_w39 hw)) (Or.inl (own_w42 hw)) (by decide) (t := (.array .double)) (by decide +kernel) (t' := (.array (.object "com/example/slotwise/slotwise/Simulation$Connection"))) (by decide +kernel), slot_ne (C := "com/example/slotwise/slotwise/Departures") (Or.inl (own_w39 hw)) (Or.inl (own_w49 hw)) (by decide) (t := (.array .double)) (by decide +kernel) (t' := .int) (by decide +kernel)⟩, slot_ne (C := "com/example/slotwise/slotwise/Departures") (Or.inl (own_w42 hw)) (Or.inl (own_w49 hw)) (by decide) (t := (.array (.object "com/example/slotwise/slotwise/Simulation$Connection"))) (by decide +kernel) (t' := .int) (by decide +kernel)⟩

abbrev own_CN (a : Addr) (f0 f1 f2 f3 : Value) : own_O := (a, "com/example/slotwise/slotwise/Simulation$Connection", [("com/example/slotwise/slotwise/Simulation$Connection", "departure", "D", f0), ("com/example/slotwise/slotwise/Simulation$Connection", "route", "Lcom/example/slotwise/slotwise/Route;", f1), ("com/example/slotwise/slotwise/Simulation$Connection", "first", "I", f2), ("com/example/slotwise/slotwise/Simulation$Connection", "size", "I", f3)])
theorem own_CN_F {Z : State} {a0 : Array Value} (hw : own_Z Z a0) : ∀ f ∈ ([("com/example/slotwise/slotwise/Simulation$Connection", "departure", "D", (.double (0 : UInt64))), ("com/example/slotwise/slotwise/Simulation$Connection", "route", "Lcom/example/slotwise/slotwise/Route;", .null), ("com/example/slotwise/slotwise/Simulation$Connection", "first", "I", (.int (0 : Int32))), ("com/example/slotwise/slotwise/Simulation$Connection", "size", "I", (.int (0 : Int32)))] : List (String × String × String × Value)), Laid Z a0 "com/example/slotwise/slotwise/Simulation$Connection" f.1 f.2.1 f.2.2.1 ∧ ∃ ty, parseFieldDescriptor f.2.2.1 = some ty ∧ f.2.2.2 = defaultValue ty := by
  intro f hf
  simp only [List.mem_cons, List.not_mem_nil, or_false] at hf
  rcases hf with rfl | rfl | rfl | rfl
  · exact ⟨Or.inr (own_w22 hw), .double, by decide +kernel, rfl⟩
  · exact ⟨Or.inr (own_w24 hw), (.object "com/example/slotwise/slotwise/Route"), by decide +kernel, rfl⟩
  · exact ⟨Or.inr (own_w26 hw), .int, by decide +kernel, rfl⟩
  · exact ⟨Or.inr (own_w28 hw), .int, by decide +kernel, rfl⟩
theorem own_CN_P {Z : State} {a0 : Array Value} (hw : own_Z Z a0) : ([("com/example/slotwise/slotwise/Simulation$Connection", "departure", "D", (.double (0 : UInt64))), ("com/example/slotwise/slotwise/Simulation$Connection", "route", "Lcom/example/slotwise/slotwise/Route;", .null), ("com/example/slotwise/slotwise/Simulation$Connection", "first", "I", (.int (0 : Int32))), ("com/example/slotwise/slotwise/Simulation$Connection", "size", "I", (.int (0 : Int32)))] : List (String × String × String × Value)).Pairwise (fun f g => Jvm.RoadKit.slotOf Z f.1 f.2.1 f.2.2.1 ≠ Jvm.RoadKit.slotOf Z g.1 g.2.1 g.2.2.1) := by
  simp only [List.pairwise_cons, List.mem_cons, List.not_mem_nil, or_false, forall_eq_or_imp, forall_eq, List.Pairwise.nil, and_true, false_implies, implies_true]
  exact ⟨⟨slot_ne (C := "com/example/slotwise/slotwise/Simulation$Connection") (Or.inr (own_w22 hw)) (Or.inr (own_w24 hw)) (by decide) (t := .double) (by decide +kernel) (t' := (.object "com/example/slotwise/slotwise/Route")) (by decide +kernel), slot_ne (C := "com/example/slotwise/slotwise/Simulation$Connection") (Or.inr (own_w22 hw)) (Or.inr (own_w26 hw)) (by decide) (t := .double) (by decide +kernel) (t' := .int) (by decide +kernel), slot_ne (C := "com/example/slotwise/slotwise/Simulation$Connection") (Or.inr (own_w22 hw)) (Or.inr (own_w28 hw)) (by decide) (t := .double) (by decide +kernel) (t' := .int) (by decide +kernel)⟩, ⟨slot_ne (C := "com/example/slotwise/slotwise/Simulation$Connection") (Or.inr (own_w24 hw)) (Or.inr (own_w26 hw)) (by decide) (t := (.object "com/example/slotwise/slotwise/Route")) (by decide +kernel) (t' := .int) (by decide +kernel), slot_ne (C := "com/example/slotwise/slotwise/Simulation$Connection") (Or.inr (own_w24 hw)) (Or.inr (own_w28 hw)) (by decide) (t := (.object "com/example/slotwise/slotwise/Route")) (by decide +kernel) (t' := .int) (by decide +kernel)⟩, slot_ne (C := "com/example/slotwise/slotwise/Simulation$Connection") (Or.inr (own_w26 hw)) (Or.inr (own_w28 hw)) (by decide) (t := .int) (by decide +kernel) (t' := .int) (by decide +kernel)⟩

theorem own_and3 (k : Int32) : k &&& 3 = 0 ∨ k &&& 3 = 1 ∨ k &&& 3 = 2 ∨ k &&& 3 = 3 := by
  have h : ∀ b : BitVec 32, b &&& 3#32 = 0#32 ∨ b &&& 3#32 = 1#32 ∨ b &&& 3#32 = 2#32 ∨ b &&& 3#32 = 3#32 := by
    intro b
    have q : (b &&& 3#32).toNat ≤ 3 := by rw [BitVec.toNat_and]; exact Nat.and_le_right
    bv_omega
  rcases h k.toBitVec with q | q | q | q
  · exact Or.inl (Int32.toBitVec_inj.mp q)
  · exact Or.inr (Or.inl (Int32.toBitVec_inj.mp q))
  · exact Or.inr (Or.inr (Or.inl (Int32.toBitVec_inj.mp q)))
  · exact Or.inr (Or.inr (Or.inr (Int32.toBitVec_inj.mp q)))
theorem own_and_bound (a b : Int32) (hb : 0 ≤ b.toInt) : 0 ≤ (a &&& b).toInt ∧ (a &&& b).toInt ≤ b.toInt := by
  have q : (a &&& b).toBitVec.toNat ≤ b.toBitVec.toNat := by
    show (a.toBitVec &&& b.toBitVec).toNat ≤ _
    rw [BitVec.toNat_and]; exact Nat.and_le_right
  have hb' : b.toInt = (b.toBitVec.toNat : Int) := by
    have : b.toInt = b.toBitVec.toInt := rfl
    rw [this] at hb ⊢
    rw [BitVec.toInt_eq_toNat_cond] at hb ⊢
    have := b.toBitVec.isLt
    split at hb <;> split <;> omega
  have hlt : 2 * b.toBitVec.toNat < 2 ^ 32 := by have := Int32.toInt_lt b; omega
  have : (a &&& b).toInt = (a &&& b).toBitVec.toInt := rfl
  rw [this, BitVec.toInt_eq_toNat_cond]
  split <;> omega
theorem own_add32 {a b : Int32} (h1 : -2147483648 ≤ a.toInt + b.toInt) (h2 : a.toInt + b.toInt ≤ 2147483647) : (a + b).toInt = a.toInt + b.toInt := by
  rw [Int32.toInt_add]; exact Int.bmod_eq_of_le (by omega) (by omega)
theorem own_sub32 {a b : Int32} (h1 : -2147483648 ≤ a.toInt - b.toInt) (h2 : a.toInt - b.toInt ≤ 2147483647) : (a - b).toInt = a.toInt - b.toInt := by
  rw [Int32.toInt_sub]; exact Int.bmod_eq_of_le (by omega) (by omega)
theorem own_mul32 {a b : Int32} (h1 : -2147483648 ≤ a.toInt * b.toInt) (h2 : a.toInt * b.toInt ≤ 2147483647) : (a * b).toInt = a.toInt * b.toInt := by
  rw [Int32.toInt_mul]; exact Int.bmod_eq_of_le (by omega) (by omega)
theorem own_rem32 {a b : Int32} (ha : 0 ≤ a.toInt) (hb : 0 < b.toInt) : 0 ≤ (a % b).toInt ∧ (a % b).toInt < b.toInt := by
  rw [Int32.toInt_mod]
  have h1 := Int.tmod_nonneg b.toInt ha
  have h2 := Int.tmod_lt_of_pos a.toInt hb
  omega
theorem own_i64 (a : Int32) : a.toInt64.toInt = a.toInt := by simp

theorem own_dc (x y : Int32) (o : CmpOp) : (y.toInt < x.toInt ∧ cmpValue (FP.dcmp (FP.i2d x) (FP.i2d y)) o = 1) ∨ (x.toInt = y.toInt ∧ cmpValue (FP.dcmp (FP.i2d x) (FP.i2d y)) o = 0) ∨ (x.toInt < y.toInt ∧ cmpValue (FP.dcmp (FP.i2d x) (FP.i2d y)) o = -1) := by
  have z : ∀ v : Int32, FP.Core.zval FP.Core.b64 (FP.Core.val64 (FP.i2d v)) = v.toInt * (FP.Core.one64 : Int) := fun v => FP.Core.DInt_zval (FP.Core.i2d_int v)
  have U : (0 : Int) < (FP.Core.one64 : Int) := by have := FP.Core.one64_pos; omega
  have n : ∀ v : Int32, FP.Core.val64 (FP.i2d v) ≠ .nan := fun v => FP.Core.DInt_ne_nan (FP.Core.i2d_int v)
  have e : FP.dcmp (FP.i2d x) (FP.i2d y) = some (compare (x.toInt * (FP.Core.one64 : Int)) (y.toInt * (FP.Core.one64 : Int))) := by
    have := FP.Core.dcmp_zval (n x) (n y); rw [z, z] at this; exact this
  rw [e]
  rcases Int.lt_trichotomy x.toInt y.toInt with h | h | h
  · exact Or.inr (Or.inr ⟨h, by rw [(FP.Core.compare_lt_iff _ _).mpr (Int.mul_lt_mul_of_pos_right h U)]; rfl⟩)
  · exact Or.inr (Or.inl ⟨h, by rw [(FP.Core.compare_eq_iff _ _).mpr (by rw [h])]; rfl⟩)
  · exact Or.inl ⟨h, by rw [(FP.Core.compare_gt_iff _ _).mpr (Int.mul_lt_mul_of_pos_right h U)]; rfl⟩
theorem own_gtd {x y : Int32} {o : CmpOp} : (0 < (cmpValue (FP.dcmp (FP.i2d x) (FP.i2d y)) o).toInt) ↔ y.toInt < x.toInt := by
  have e1 : (1 : Int32).toInt = 1 := rfl
  have e0 : (0 : Int32).toInt = 0 := rfl
  have e2 : (-1 : Int32).toInt = -1 := rfl
  rcases own_dc x y o with ⟨h, e⟩ | ⟨h, e⟩ | ⟨h, e⟩ <;> rw [e] <;> omega
theorem own_ged {x y : Int32} {o : CmpOp} : (0 ≤ (cmpValue (FP.dcmp (FP.i2d x) (FP.i2d y)) o).toInt) ↔ y.toInt ≤ x.toInt := by
  have e1 : (1 : Int32).toInt = 1 := rfl
  have e0 : (0 : Int32).toInt = 0 := rfl
  have e2 : (-1 : Int32).toInt = -1 := rfl
  rcases own_dc x y o with ⟨h, e⟩ | ⟨h, e⟩ | ⟨h, e⟩ <;> rw [e] <;> omega
abbrev own_c (aa : Nat → Addr) (za : Nat → Int32) (j : Nat) : own_O := own_CN (aa j) (.double (FP.i2d (za j))) .null (.int (0 : Int32)) (.int (1 : Int32))
theorem own_atC {Z : State} {h : Heap} {o : own_O} {os : List own_O} {as : List own_A} {aa : Nat → Addr} {za : Nat → Int32} {j : Nat} (H : own_H Z h (o :: os) as) (ho : ∀ j, j < 6 → ∃ i : Nat, os[i]? = some (own_c aa za j)) (hj : j < 6) : Exa Z h (aa j) "com/example/slotwise/slotwise/Simulation$Connection" := by
  obtain ⟨i, hi⟩ := ho j hj
  exact H.atO (i := i + 1) hi
set_option maxRecDepth 65536 in
set_option maxHeartbeats 40000000 in
theorem own_dep_ef (m : MethodId) (x0 : Addr) : entryFrame m #[(.ref x0)] 1 = mkF m 0 #[.val (.ref x0)] [] := by first | (simp [entryFrame, mkF, argsToLocals, Value.category]; done) | rfl
set_option maxRecDepth 65536 in
set_option maxHeartbeats 40000000 in
theorem own_dep {l : Launch} {Z : State} {a0 : Array Value} (hw : own_Z Z a0) {h : Heap} {os : List own_O} {as : List own_A} {a : Addr} {d : UInt64} (H : own_H Z h (own_CN a (.double d) .null (.int (0 : Int32)) (.int (1 : Int32)) :: os) as) : own_Met false l Z (⟨"com/example/slotwise/slotwise/Simulation$Connection", "departure", "()D"⟩ : MethodName) prog_33_method_5_code 1 (some .double) [] ({ frames := 0, cells := 0, slots := 0, locals := 0 } : Room) #[(.ref a)] h (fun v h' => v = some (.double d) ∧ h = h') := by
  refine own_met (by first | exact plainFor_of_name (by decide +kernel) | decide +kernel) ?_
  intro p e s m below meth c K
  refine own_cast (own_dep_ef m _) ?_
  refine own_aloadN K own_d0_0 rfl rfl ?_
  refine own_getfield K own_d0_1 (host := "") (Or.inl (own_w21 hw)) Via.refl H (j := 0) rfl (q := 0) rfl ?_
  exact own_retD K own_d0_4 (by decide) (by decide) (⟨rfl, rfl⟩)
set_option maxRecDepth 65536 in
set_option maxHeartbeats 40000000 in
theorem own_add0_ef (m : MethodId) (x0 : Addr) (x1 : Addr) : entryFrame m #[(.ref x0), (.ref x1)] 6 = mkF m 0 #[.val (.ref x0), .val (.ref x1), .unset, .unset, .unset, .unset] [] := by first | (simp [entryFrame, mkF, argsToLocals, Value.category]; done) | rfl
set_option maxRecDepth 65536 in
set_option maxHeartbeats 40000000 in
theorem own_add0 {l : Launch} {Z : State} {a0 : Array Value} (hw : own_Z Z a0) {h : Heap} {os : List own_O} {as : List own_A} {aa : Nat → Addr} {za : Nat → Int32} {a ta ca : Addr} {tl tk : List Value} {j : Nat} {x0 x1 x2 x3 x4 x5 y0 y1 y2 y3 y4 y5 : Value} (htl : tl.length = 58) (H : own_H Z h (own_DP a (.ref ta) (.ref ca) (.int (0 : Int32)) :: os) ((ta, .double, "[D", (x0 :: x1 :: x2 :: x3 :: x4 :: x5 :: tl)) :: (ca, (.object "com/example/slotwise/slotwise/Simulation$Connection"), "[Lcom/example/slotwise/slotwise/Simulation$Connection;", (y0 :: y1 :: y2 :: y3 :: y4 :: y5 :: tk)) :: as)) (ho : ∀ j, j < 6 → ∃ i : Nat, os[i]? = some (own_c aa za j)) (hj : j < 6) : own_Met false l Z (⟨"com/example/slotwise/slotwise/Departures", "add", "(Lcom/example/slotwise/slotwise/Simulation$Connection;)V"⟩ : MethodName) prog_10_method_4_code 6 none [] ({ frames := 1, cells := 0, slots := 0, locals := 12 } : Room) #[(.ref a), (.ref (aa j))] h (fun v h' => v = none ∧ ∃ k0, List.Perm [k0] [j] ∧ k0 < 6 ∧ own_H Z h' (own_DP a (.ref ta) (.ref ca) (.int (1 : Int32)) :: os) ((ta, .double, "[D", ((.double (FP.i2d (za k0))) :: x1 :: x2 :: x3 :: x4 :: x5 :: tl)) :: (ca, (.object "com/example/slotwise/slotwise/Simulation$Connection"), "[Lcom/example/slotwise/slotwise/Simulation$Connection;", ((.ref (aa k0)) :: y1 :: y2 :: y3 :: y4 :: y5 :: tk)) :: as)) := by
  refine own_met (by first | exact plainFor_of_name (by decide +kernel) | decide +kernel) ?_
  intro p e s m below meth c K
  refine own_cast (own_add0_ef m _ _) ?_
  obtain ⟨ix, hix⟩ := ho j hj
  refine own_aloadN K own_d1_0 rfl rfl ?_
  refine own_getfield K own_d1_1 (host := "") (Or.inl (own_w48 hw)) Via.refl H (j := 0) rfl (q := 2) rfl ?_
  refine own_aloadN K own_d1_4 rfl rfl ?_
  refine own_getfield K own_d1_5 (host := "") (Or.inl (own_w38 hw)) Via.refl H (j := 0) rfl (q := 0) rfl ?_
  refine own_arraylength K own_d1_8 H (i := 0) rfl (N := (64 : Int32)) (by simp only [List.length_cons, htl]; rfl) ?_
  refine own_icmpne K own_d1_9 (fun _ => ?_) (fun q => absurd (by decide) q)
  refine own_aloadN K own_d1_49 rfl rfl ?_
  refine own_virtual K own_d1_50 (own_w50 hw) (own_w51 hw) (own_w53 hw) (own_w52 hw) (own_w9 hw) (own_w54 hw) (H.atO (i := ix + 1) hix) (a := (aa j)) (argsL := []) (rest := []) (own_dep hw (H.frontO (ix + 1) hix)) own_pd0 rfl rfl rfl (by decide) (W := 0) (Nat.le_of_eq rfl) (by decide) (by decide) (by decide) (by decide) ?_
  intro v3 h1 q2
  obtain ⟨rfl, rfl⟩ := q2
  refine own_dstoreN K own_d1_53 (Ls' := #[.val (.ref a), .val (.ref (aa j)), .val (.double (FP.i2d (za j))), .second, .unset, .unset]) rfl ?_
  refine own_aloadN K own_d1_54 rfl rfl ?_
  refine own_getfield K own_d1_55 (host := "") (Or.inl (own_w48 hw)) Via.refl H (j := 0) rfl (q := 2) rfl ?_
  refine own_istore K own_d1_58 (Ls' := #[.val (.ref a), .val (.ref (aa j)), .val (.double (FP.i2d (za j))), .second, .val (.int (0 : Int32)), .unset]) rfl ?_
  refine own_iload K own_d1_60 rfl ?_
  refine own_ifle K own_d1_62 (fun _ => ?_) (fun q => absurd (by decide) q)
  refine own_aloadN K own_d1_123 rfl rfl ?_
  refine own_getfield K own_d1_124 (host := "") (Or.inl (own_w38 hw)) Via.refl H (j := 0) rfl (q := 0) rfl ?_
  refine own_iload K own_d1_127 rfl ?_
  refine own_dloadN K own_d1_129 rfl ?_
  refine own_dastore K own_d1_130 H (i := 0) rfl (q := 0) (by decide) (own_le rfl) ?_
  intro h4 H5
  replace H5 : own_H Z h4 (own_DP a (.ref ta) (.ref ca) (.int (0 : Int32)) :: os) ((ta, .double, "[D", ((.double (FP.i2d (za j))) :: x1 :: x2 :: x3 :: x4 :: x5 :: tl)) :: (ca, (.object "com/example/slotwise/slotwise/Simulation$Connection"), "[Lcom/example/slotwise/slotwise/Simulation$Connection;", (y0 :: y1 :: y2 :: y3 :: y4 :: y5 :: tk)) :: as) := H5
  refine own_aloadN K own_d1_131 rfl rfl ?_
  refine own_getfield K own_d1_132 (host := "") (Or.inl (own_w41 hw)) Via.refl H5 (j := 0) rfl (q := 1) rfl ?_
  refine own_iload K own_d1_135 rfl ?_
  refine own_aloadN K own_d1_137 rfl rfl ?_
  refine own_aastoreR K own_d1_138 H5 (i := 1) rfl (by decide) (Ins.self (own_atC H5 ho hj)) (q := 0) (by decide) (own_le rfl) ?_
  intro h6 H7
  replace H7 : own_H Z h6 (own_DP a (.ref ta) (.ref ca) (.int (0 : Int32)) :: os) ((ta, .double, "[D", ((.double (FP.i2d (za j))) :: x1 :: x2 :: x3 :: x4 :: x5 :: tl)) :: (ca, (.object "com/example/slotwise/slotwise/Simulation$Connection"), "[Lcom/example/slotwise/slotwise/Simulation$Connection;", ((.ref (aa j)) :: y1 :: y2 :: y3 :: y4 :: y5 :: tk)) :: as) := H7
  refine own_aloadN K own_d1_139 rfl rfl ?_
  refine own_dup K own_d1_140 rfl ?_
  refine own_getfield K own_d1_141 (host := "") (Or.inl (own_w48 hw)) Via.refl H7 (j := 0) rfl (q := 2) rfl ?_
  refine own_iconst K own_d1_144 (v := (1 : Int32)) rfl ?_
  refine own_iadd K own_d1_145 ?_
  refine own_topI (x' := (1 : Int32)) (by decide) ?_
  refine own_putfield K own_d1_146 (host := "") (Or.inl (own_w48 hw)) Via.refl H7 (j := 0) rfl (q := 2) rfl (Or.inl (own_w49 hw)) (own_w31 hw) (ty := .int) (by decide +kernel) (rfl) rfl ?_
  intro h8 H9
  replace H9 : own_H Z h8 (own_DP a (.ref ta) (.ref ca) (.int (1 : Int32)) :: os) ((ta, .double, "[D", ((.double (FP.i2d (za j))) :: x1 :: x2 :: x3 :: x4 :: x5 :: tl)) :: (ca, (.object "com/example/slotwise/slotwise/Simulation$Connection"), "[Lcom/example/slotwise/slotwise/Simulation$Connection;", ((.ref (aa j)) :: y1 :: y2 :: y3 :: y4 :: y5 :: tk)) :: as) := H9
  exact own_retV K own_d1_149 (by decide) (by decide) (⟨rfl, j, List.Perm.cons j (List.Perm.nil), hj, H9⟩)
set_option maxRecDepth 65536 in
set_option maxHeartbeats 40000000 in
theorem own_add1_ef (m : MethodId) (x0 : Addr) (x1 : Addr) : entryFrame m #[(.ref x0), (.ref x1)] 6 = mkF m 0 #[.val (.ref x0), .val (.ref x1), .unset, .unset, .unset, .unset] [] := by first | (simp [entryFrame, mkF, argsToLocals, Value.category]; done) | rfl
set_option maxRecDepth 65536 in
set_option maxHeartbeats 40000000 in
theorem own_add1 {l : Launch} {Z : State} {a0 : Array Value} (hw : own_Z Z a0) {h : Heap} {os : List own_O} {as : List own_A} {aa : Nat → Addr} {za : Nat → Int32} {a ta ca : Addr} {tl tk : List Value} {j j0 : Nat} {x1 x2 x3 x4 x5 y1 y2 y3 y4 y5 : Value} (htl : tl.length = 58) (H : own_H Z h (own_DP a (.ref ta) (.ref ca) (.int (1 : Int32)) :: os) ((ta, .double, "[D", ((.double (FP.i2d (za j0))) :: x1 :: x2 :: x3 :: x4 :: x5 :: tl)) :: (ca, (.object "com/example/slotwise/slotwise/Simulation$Connection"), "[Lcom/example/slotwise/slotwise/Simulation$Connection;", ((.ref (aa j0)) :: y1 :: y2 :: y3 :: y4 :: y5 :: tk)) :: as)) (ho : ∀ j, j < 6 → ∃ i : Nat, os[i]? = some (own_c aa za j)) (hj : j < 6) (hj0 : j0 < 6) : own_Met false l Z (⟨"com/example/slotwise/slotwise/Departures", "add", "(Lcom/example/slotwise/slotwise/Simulation$Connection;)V"⟩ : MethodName) prog_10_method_4_code 6 none [] ({ frames := 1, cells := 0, slots := 0, locals := 12 } : Room) #[(.ref a), (.ref (aa j))] h (fun v h' => v = none ∧ ∃ k0 k1, List.Perm [k0, k1] [j, j0] ∧ (za k0).toInt ≤ (za k1).toInt ∧ k0 < 6 ∧ k1 < 6 ∧ own_H Z h' (own_DP a (.ref ta) (.ref ca) (.int (2 : Int32)) :: os) ((ta, .double, "[D", ((.double (FP.i2d (za k0))) :: (.double (FP.i2d (za k1))) :: x2 :: x3 :: x4 :: x5 :: tl)) :: (ca, (.object "com/example/slotwise/slotwise/Simulation$Connection"), "[Lcom/example/slotwise/slotwise/Simulation$Connection;", ((.ref (aa k0)) :: (.ref (aa k1)) :: y2 :: y3 :: y4 :: y5 :: tk)) :: as)) := by
  refine own_met (by first | exact plainFor_of_name (by decide +kernel) | decide +kernel) ?_
  intro p e s m below meth c K
  refine own_cast (own_add1_ef m _ _) ?_
  obtain ⟨ix, hix⟩ := ho j hj
  refine own_aloadN K own_d1_0 rfl rfl ?_
  refine own_getfield K own_d1_1 (host := "") (Or.inl (own_w48 hw)) Via.refl H (j := 0) rfl (q := 2) rfl ?_
  refine own_aloadN K own_d1_4 rfl rfl ?_
  refine own_getfield K own_d1_5 (host := "") (Or.inl (own_w38 hw)) Via.refl H (j := 0) rfl (q := 0) rfl ?_
  refine own_arraylength K own_d1_8 H (i := 0) rfl (N := (64 : Int32)) (by simp only [List.length_cons, htl]; rfl) ?_
  refine own_icmpne K own_d1_9 (fun _ => ?_) (fun q => absurd (by decide) q)
  refine own_aloadN K own_d1_49 rfl rfl ?_
  refine own_virtual K own_d1_50 (own_w50 hw) (own_w51 hw) (own_w53 hw) (own_w52 hw) (own_w9 hw) (own_w54 hw) (H.atO (i := ix + 1) hix) (a := (aa j)) (argsL := []) (rest := []) (own_dep hw (H.frontO (ix + 1) hix)) own_pd0 rfl rfl rfl (by decide) (W := 0) (Nat.le_of_eq rfl) (by decide) (by decide) (by decide) (by decide) ?_
  intro v3 h1 q2
  obtain ⟨rfl, rfl⟩ := q2
  refine own_dstoreN K own_d1_53 (Ls' := #[.val (.ref a), .val (.ref (aa j)), .val (.double (FP.i2d (za j))), .second, .unset, .unset]) rfl ?_
  refine own_aloadN K own_d1_54 rfl rfl ?_
  refine own_getfield K own_d1_55 (host := "") (Or.inl (own_w48 hw)) Via.refl H (j := 0) rfl (q := 2) rfl ?_
  refine own_istore K own_d1_58 (Ls' := #[.val (.ref a), .val (.ref (aa j)), .val (.double (FP.i2d (za j))), .second, .val (.int (1 : Int32)), .unset]) rfl ?_
  refine own_iload K own_d1_60 rfl ?_
  refine own_ifle K own_d1_62 (fun q => absurd q (by decide)) (fun _ => ?_)
  refine own_iload K own_d1_65 rfl ?_
  refine own_iconst K own_d1_67 (v := (1 : Int32)) rfl ?_
  refine own_isub K own_d1_68 ?_
  refine own_topI (x' := (0 : Int32)) (by decide) ?_
  refine own_iconst K own_d1_69 (v := (1 : Int32)) rfl ?_
  refine own_iushr K own_d1_70 ?_
  refine own_topI (x' := (0 : Int32)) (by decide) ?_
  refine own_istore K own_d1_71 (Ls' := #[.val (.ref a), .val (.ref (aa j)), .val (.double (FP.i2d (za j))), .second, .val (.int (1 : Int32)), .val (.int (0 : Int32))]) rfl ?_
  refine own_aloadN K own_d1_73 rfl rfl ?_
  refine own_getfield K own_d1_74 (host := "") (Or.inl (own_w38 hw)) Via.refl H (j := 0) rfl (q := 0) rfl ?_
  refine own_iload K own_d1_77 rfl ?_
  refine own_daload K own_d1_79 H (i := 0) rfl (q := 0) (by decide) (rfl) ?_
  refine own_dloadN K own_d1_80 rfl ?_
  refine own_dcmp K own_d1_81 ?_
  refine own_ifgt K own_d1_82 (fun g1 => ?_) (fun g1 => ?_)
  · rw [own_gtd] at g1
    refine own_aloadN K own_d1_88 rfl rfl ?_
    refine own_getfield K own_d1_89 (host := "") (Or.inl (own_w38 hw)) Via.refl H (j := 0) rfl (q := 0) rfl ?_
    refine own_iload K own_d1_92 rfl ?_
    refine own_aloadN K own_d1_94 rfl rfl ?_
    refine own_getfield K own_d1_95 (host := "") (Or.inl (own_w38 hw)) Via.refl H (j := 0) rfl (q := 0) rfl ?_
    refine own_iload K own_d1_98 rfl ?_
    refine own_daload K own_d1_100 H (i := 0) rfl (q := 0) (by decide) (rfl) ?_
    refine own_dastore K own_d1_101 H (i := 0) rfl (q := 1) (by decide) (own_le rfl) ?_
    intro h4 H5
    replace H5 : own_H Z h4 (own_DP a (.ref ta) (.ref ca) (.int (1 : Int32)) :: os) ((ta, .double, "[D", ((.double (FP.i2d (za j0))) :: (.double (FP.i2d (za j0))) :: x2 :: x3 :: x4 :: x5 :: tl)) :: (ca, (.object "com/example/slotwise/slotwise/Simulation$Connection"), "[Lcom/example/slotwise/slotwise/Simulation$Connection;", ((.ref (aa j0)) :: y1 :: y2 :: y3 :: y4 :: y5 :: tk)) :: as) := H5
    refine own_aloadN K own_d1_102 rfl rfl ?_
    refine own_getfield K own_d1_103 (host := "") (Or.inl (own_w41 hw)) Via.refl H5 (j := 0) rfl (q := 1) rfl ?_
    refine own_iload K own_d1_106 rfl ?_
    refine own_aloadN K own_d1_108 rfl rfl ?_
    refine own_getfield K own_d1_109 (host := "") (Or.inl (own_w41 hw)) Via.refl H5 (j := 0) rfl (q := 1) rfl ?_
    refine own_iload K own_d1_112 rfl ?_
    refine own_aaload K own_d1_114 H5 (i := 1) rfl rfl (q := 0) (by decide) (rfl) ?_
    refine own_aastoreR K own_d1_115 H5 (i := 1) rfl (by decide) (Ins.self (own_atC H5 ho hj0)) (q := 1) (by decide) (own_le rfl) ?_
    intro h6 H7
    replace H7 : own_H Z h6 (own_DP a (.ref ta) (.ref ca) (.int (1 : Int32)) :: os) ((ta, .double, "[D", ((.double (FP.i2d (za j0))) :: (.double (FP.i2d (za j0))) :: x2 :: x3 :: x4 :: x5 :: tl)) :: (ca, (.object "com/example/slotwise/slotwise/Simulation$Connection"), "[Lcom/example/slotwise/slotwise/Simulation$Connection;", ((.ref (aa j0)) :: (.ref (aa j0)) :: y2 :: y3 :: y4 :: y5 :: tk)) :: as) := H7
    refine own_iload K own_d1_116 rfl ?_
    refine own_istore K own_d1_118 (Ls' := #[.val (.ref a), .val (.ref (aa j)), .val (.double (FP.i2d (za j))), .second, .val (.int (0 : Int32)), .val (.int (0 : Int32))]) rfl ?_
    refine own_goto K own_d1_120 ?_
    refine own_iload K own_d1_60 rfl ?_
    refine own_ifle K own_d1_62 (fun _ => ?_) (fun q => absurd (by decide) q)
    refine own_aloadN K own_d1_123 rfl rfl ?_
    refine own_getfield K own_d1_124 (host := "") (Or.inl (own_w38 hw)) Via.refl H7 (j := 0) rfl (q := 0) rfl ?_
    refine own_iload K own_d1_127 rfl ?_
    refine own_dloadN K own_d1_129 rfl ?_
    refine own_dastore K own_d1_130 H7 (i := 0) rfl (q := 0) (by decide) (own_le rfl) ?_
    intro h8 H9
    replace H9 : own_H Z h8 (own_DP a (.ref ta) (.ref ca) (.int (1 : Int32)) :: os) ((ta, .double, "[D", ((.double (FP.i2d (za j))) :: (.double (FP.i2d (za j0))) :: x2 :: x3 :: x4 :: x5 :: tl)) :: (ca, (.object "com/example/slotwise/slotwise/Simulation$Connection"), "[Lcom/example/slotwise/slotwise/Simulation$Connection;", ((.ref (aa j0)) :: (.ref (aa j0)) :: y2 :: y3 :: y4 :: y5 :: tk)) :: as) := H9
    refine own_aloadN K own_d1_131 rfl rfl ?_
    refine own_getfield K own_d1_132 (host := "") (Or.inl (own_w41 hw)) Via.refl H9 (j := 0) rfl (q := 1) rfl ?_
    refine own_iload K own_d1_135 rfl ?_
    refine own_aloadN K own_d1_137 rfl rfl ?_
    refine own_aastoreR K own_d1_138 H9 (i := 1) rfl (by decide) (Ins.self (own_atC H9 ho hj)) (q := 0) (by decide) (own_le rfl) ?_
    intro h10 H11
    replace H11 : own_H Z h10 (own_DP a (.ref ta) (.ref ca) (.int (1 : Int32)) :: os) ((ta, .double, "[D", ((.double (FP.i2d (za j))) :: (.double (FP.i2d (za j0))) :: x2 :: x3 :: x4 :: x5 :: tl)) :: (ca, (.object "com/example/slotwise/slotwise/Simulation$Connection"), "[Lcom/example/slotwise/slotwise/Simulation$Connection;", ((.ref (aa j)) :: (.ref (aa j0)) :: y2 :: y3 :: y4 :: y5 :: tk)) :: as) := H11
    refine own_aloadN K own_d1_139 rfl rfl ?_
    refine own_dup K own_d1_140 rfl ?_
    refine own_getfield K own_d1_141 (host := "") (Or.inl (own_w48 hw)) Via.refl H11 (j := 0) rfl (q := 2) rfl ?_
    refine own_iconst K own_d1_144 (v := (1 : Int32)) rfl ?_
    refine own_iadd K own_d1_145 ?_
    refine own_topI (x' := (2 : Int32)) (by decide) ?_
    refine own_putfield K own_d1_146 (host := "") (Or.inl (own_w48 hw)) Via.refl H11 (j := 0) rfl (q := 2) rfl (Or.inl (own_w49 hw)) (own_w31 hw) (ty := .int) (by decide +kernel) (rfl) rfl ?_
    intro h12 H13
    replace H13 : own_H Z h12 (own_DP a (.ref ta) (.ref ca) (.int (2 : Int32)) :: os) ((ta, .double, "[D", ((.double (FP.i2d (za j))) :: (.double (FP.i2d (za j0))) :: x2 :: x3 :: x4 :: x5 :: tl)) :: (ca, (.object "com/example/slotwise/slotwise/Simulation$Connection"), "[Lcom/example/slotwise/slotwise/Simulation$Connection;", ((.ref (aa j)) :: (.ref (aa j0)) :: y2 :: y3 :: y4 :: y5 :: tk)) :: as) := H13
    exact own_retV K own_d1_149 (by decide) (by decide) (⟨rfl, j, j0, List.Perm.cons j (List.Perm.cons j0 (List.Perm.nil)), by omega, hj, hj0, H13⟩)
  · rw [own_gtd] at g1
    refine own_goto K own_d1_85 ?_
    refine own_aloadN K own_d1_123 rfl rfl ?_
    refine own_getfield K own_d1_124 (host := "") (Or.inl (own_w38 hw)) Via.refl H (j := 0) rfl (q := 0) rfl ?_
    refine own_iload K own_d1_127 rfl ?_
    refine own_dloadN K own_d1_129 rfl ?_
    refine own_dastore K own_d1_130 H (i := 0) rfl (q := 1) (by decide) (own_le rfl) ?_
    intro h14 H15
    replace H15 : own_H Z h14 (own_DP a (.ref ta) (.ref ca) (.int (1 : Int32)) :: os) ((ta, .double, "[D", ((.double (FP.i2d (za j0))) :: (.double (FP.i2d (za j))) :: x2 :: x3 :: x4 :: x5 :: tl)) :: (ca, (.object "com/example/slotwise/slotwise/Simulation$Connection"), "[Lcom/example/slotwise/slotwise/Simulation$Connection;", ((.ref (aa j0)) :: y1 :: y2 :: y3 :: y4 :: y5 :: tk)) :: as) := H15
    refine own_aloadN K own_d1_131 rfl rfl ?_
    refine own_getfield K own_d1_132 (host := "") (Or.inl (own_w41 hw)) Via.refl H15 (j := 0) rfl (q := 1) rfl ?_
    refine own_iload K own_d1_135 rfl ?_
    refine own_aloadN K own_d1_137 rfl rfl ?_
    refine own_aastoreR K own_d1_138 H15 (i := 1) rfl (by decide) (Ins.self (own_atC H15 ho hj)) (q := 1) (by decide) (own_le rfl) ?_
    intro h16 H17
    replace H17 : own_H Z h16 (own_DP a (.ref ta) (.ref ca) (.int (1 : Int32)) :: os) ((ta, .double, "[D", ((.double (FP.i2d (za j0))) :: (.double (FP.i2d (za j))) :: x2 :: x3 :: x4 :: x5 :: tl)) :: (ca, (.object "com/example/slotwise/slotwise/Simulation$Connection"), "[Lcom/example/slotwise/slotwise/Simulation$Connection;", ((.ref (aa j0)) :: (.ref (aa j)) :: y2 :: y3 :: y4 :: y5 :: tk)) :: as) := H17
    refine own_aloadN K own_d1_139 rfl rfl ?_
    refine own_dup K own_d1_140 rfl ?_
    refine own_getfield K own_d1_141 (host := "") (Or.inl (own_w48 hw)) Via.refl H17 (j := 0) rfl (q := 2) rfl ?_
    refine own_iconst K own_d1_144 (v := (1 : Int32)) rfl ?_
    refine own_iadd K own_d1_145 ?_
    refine own_topI (x' := (2 : Int32)) (by decide) ?_
    refine own_putfield K own_d1_146 (host := "") (Or.inl (own_w48 hw)) Via.refl H17 (j := 0) rfl (q := 2) rfl (Or.inl (own_w49 hw)) (own_w31 hw) (ty := .int) (by decide +kernel) (rfl) rfl ?_
    intro h18 H19
    replace H19 : own_H Z h18 (own_DP a (.ref ta) (.ref ca) (.int (2 : Int32)) :: os) ((ta, .double, "[D", ((.double (FP.i2d (za j0))) :: (.double (FP.i2d (za j))) :: x2 :: x3 :: x4 :: x5 :: tl)) :: (ca, (.object "com/example/slotwise/slotwise/Simulation$Connection"), "[Lcom/example/slotwise/slotwise/Simulation$Connection;", ((.ref (aa j0)) :: (.ref (aa j)) :: y2 :: y3 :: y4 :: y5 :: tk)) :: as) := H19
    exact own_retV K own_d1_149 (by decide) (by decide) (⟨rfl, j0, j, (List.perm_middle (l₁ := [j0]) (a := j) (l₂ := [])).trans (List.Perm.cons j (List.Perm.cons j0 (List.Perm.nil))), by omega, hj0, hj, H19⟩)
set_option maxRecDepth 65536 in
set_option maxHeartbeats 40000000 in
theorem own_add2_ef (m : MethodId) (x0 : Addr) (x1 : Addr) : entryFrame m #[(.ref x0), (.ref x1)] 6 = mkF m 0 #[.val (.ref x0), .val (.ref x1), .unset, .unset, .unset, .unset] [] := by first | (simp [entryFrame, mkF, argsToLocals, Value.category]; done) | rfl
set_option maxRecDepth 65536 in
set_option maxHeartbeats 40000000 in
theorem own_add2 {l : Launch} {Z : State} {a0 : Array Value} (hw : own_Z Z a0) {h : Heap} {os : List own_O} {as : List own_A} {aa : Nat → Addr} {za : Nat → Int32} {a ta ca : Addr} {tl tk : List Value} {j j0 j1 : Nat} {x2 x3 x4 x5 y2 y3 y4 y5 : Value} (htl : tl.length = 58) (H : own_H Z h (own_DP a (.ref ta) (.ref ca) (.int (2 : Int32)) :: os) ((ta, .double, "[D", ((.double (FP.i2d (za j0))) :: (.double (FP.i2d (za j1))) :: x2 :: x3 :: x4 :: x5 :: tl)) :: (ca, (.object "com/example/slotwise/slotwise/Simulation$Connection"), "[Lcom/example/slotwise/slotwise/Simulation$Connection;", ((.ref (aa j0)) :: (.ref (aa j1)) :: y2 :: y3 :: y4 :: y5 :: tk)) :: as)) (ho : ∀ j, j < 6 → ∃ i : Nat, os[i]? = some (own_c aa za j)) (hj : j < 6) (hj0 : j0 < 6) (hj1 : j1 < 6) (p0 : (za j0).toInt ≤ (za j1).toInt) : own_Met false l Z (⟨"com/example/slotwise/slotwise/Departures", "add", "(Lcom/example/slotwise/slotwise/Simulation$Connection;)V"⟩ : MethodName) prog_10_method_4_code 6 none [] ({ frames := 1, cells := 0, slots := 0, locals := 12 } : Room) #[(.ref a), (.ref (aa j))] h (fun v h' => v = none ∧ ∃ k0 k1 k2, List.Perm [k0, k1, k2] [j, j0, j1] ∧ (za k0).toInt ≤ (za k1).toInt ∧ (za k0).toInt ≤ (za k2).toInt ∧ k0 < 6 ∧ k1 < 6 ∧ k2 < 6 ∧ own_H Z h' (own_DP a (.ref ta) (.ref ca) (.int (3 : Int32)) :: os) ((ta, .double, "[D", ((.double (FP.i2d (za k0))) :: (.double (FP.i2d (za k1))) :: (.double (FP.i2d (za k2))) :: x3 :: x4 :: x5 :: tl)) :: (ca, (.object "com/example/slotwise/slotwise/Simulation$Connection"), "[Lcom/example/slotwise/slotwise/Simulation$Connection;", ((.ref (aa k0)) :: (.ref (aa k1)) :: (.ref (aa k2)) :: y3 :: y4 :: y5 :: tk)) :: as)) := by
  refine own_met (by first | exact plainFor_of_name (by decide +kernel) | decide +kernel) ?_
  intro p e s m below meth c K
  refine own_cast (own_add2_ef m _ _) ?_
  obtain ⟨ix, hix⟩ := ho j hj
  refine own_aloadN K own_d1_0 rfl rfl ?_
  refine own_getfield K own_d1_1 (host := "") (Or.inl (own_w48 hw)) Via.refl H (j := 0) rfl (q := 2) rfl ?_
  refine own_aloadN K own_d1_4 rfl rfl ?_
  refine own_getfield K own_d1_5 (host := "") (Or.inl (own_w38 hw)) Via.refl H (j := 0) rfl (q := 0) rfl ?_
  refine own_arraylength K own_d1_8 H (i := 0) rfl (N := (64 : Int32)) (by simp only [List.length_cons, htl]; rfl) ?_
  refine own_icmpne K own_d1_9 (fun _ => ?_) (fun q => absurd (by decide) q)
  refine own_aloadN K own_d1_49 rfl rfl ?_
  refine own_virtual K own_d1_50 (own_w50 hw) (own_w51 hw) (own_w53 hw) (own_w52 hw) (own_w9 hw) (own_w54 hw) (H.atO (i := ix + 1) hix) (a := (aa j)) (argsL := []) (rest := []) (own_dep hw (H.frontO (ix + 1) hix)) own_pd0 rfl rfl rfl (by decide) (W := 0) (Nat.le_of_eq rfl) (by decide) (by decide) (by decide) (by decide) ?_
  intro v3 h1 q2
  obtain ⟨rfl, rfl⟩ := q2
  refine own_dstoreN K own_d1_53 (Ls' := #[.val (.ref a), .val (.ref (aa j)), .val (.double (FP.i2d (za j))), .second, .unset, .unset]) rfl ?_
  refine own_aloadN K own_d1_54 rfl rfl ?_
  refine own_getfield K own_d1_55 (host := "") (Or.inl (own_w48 hw)) Via.refl H (j := 0) rfl (q := 2) rfl ?_
  refine own_istore K own_d1_58 (Ls' := #[.val (.ref a), .val (.ref (aa j)), .val (.double (FP.i2d (za j))), .second, .val (.int (2 : Int32)), .unset]) rfl ?_
  refine own_iload K own_d1_60 rfl ?_
  refine own_ifle K own_d1_62 (fun q => absurd q (by decide)) (fun _ => ?_)
  refine own_iload K own_d1_65 rfl ?_
  refine own_iconst K own_d1_67 (v := (1 : Int32)) rfl ?_
  refine own_isub K own_d1_68 ?_
  refine own_topI (x' := (1 : Int32)) (by decide) ?_
  refine own_iconst K own_d1_69 (v := (1 : Int32)) rfl ?_
  refine own_iushr K own_d1_70 ?_
  refine own_topI (x' := (0 : Int32)) (by decide) ?_
  refine own_istore K own_d1_71 (Ls' := #[.val (.ref a), .val (.ref (aa j)), .val (.double (FP.i2d (za j))), .second, .val (.int (2 : Int32)), .val (.int (0 : Int32))]) rfl ?_
  refine own_aloadN K own_d1_73 rfl rfl ?_
  refine own_getfield K own_d1_74 (host := "") (Or.inl (own_w38 hw)) Via.refl H (j := 0) rfl (q := 0) rfl ?_
  refine own_iload K own_d1_77 rfl ?_
  refine own_daload K own_d1_79 H (i := 0) rfl (q := 0) (by decide) (rfl) ?_
  refine own_dloadN K own_d1_80 rfl ?_
  refine own_dcmp K own_d1_81 ?_
  refine own_ifgt K own_d1_82 (fun g2 => ?_) (fun g2 => ?_)
  · rw [own_gtd] at g2
    refine own_aloadN K own_d1_88 rfl rfl ?_
    refine own_getfield K own_d1_89 (host := "") (Or.inl (own_w38 hw)) Via.refl H (j := 0) rfl (q := 0) rfl ?_
    refine own_iload K own_d1_92 rfl ?_
    refine own_aloadN K own_d1_94 rfl rfl ?_
    refine own_getfield K own_d1_95 (host := "") (Or.inl (own_w38 hw)) Via.refl H (j := 0) rfl (q := 0) rfl ?_
    refine own_iload K own_d1_98 rfl ?_
    refine own_daload K own_d1_100 H (i := 0) rfl (q := 0) (by decide) (rfl) ?_
    refine own_dastore K own_d1_101 H (i := 0) rfl (q := 2) (by decide) (own_le rfl) ?_
    intro h4 H5
    replace H5 : own_H Z h4 (own_DP a (.ref ta) (.ref ca) (.int (2 : Int32)) :: os) ((ta, .double, "[D", ((.double (FP.i2d (za j0))) :: (.double (FP.i2d (za j1))) :: (.double (FP.i2d (za j0))) :: x3 :: x4 :: x5 :: tl)) :: (ca, (.object "com/example/slotwise/slotwise/Simulation$Connection"), "[Lcom/example/slotwise/slotwise/Simulation$Connection;", ((.ref (aa j0)) :: (.ref (aa j1)) :: y2 :: y3 :: y4 :: y5 :: tk)) :: as) := H5
    refine own_aloadN K own_d1_102 rfl rfl ?_
    refine own_getfield K own_d1_103 (host := "") (Or.inl (own_w41 hw)) Via.refl H5 (j := 0) rfl (q := 1) rfl ?_
    refine own_iload K own_d1_106 rfl ?_
    refine own_aloadN K own_d1_108 rfl rfl ?_
    refine own_getfield K own_d1_109 (host := "") (Or.inl (own_w41 hw)) Via.refl H5 (j := 0) rfl (q := 1) rfl ?_
    refine own_iload K own_d1_112 rfl ?_
    refine own_aaload K own_d1_114 H5 (i := 1) rfl rfl (q := 0) (by decide) (rfl) ?_
    refine own_aastoreR K own_d1_115 H5 (i := 1) rfl (by decide) (Ins.self (own_atC H5 ho hj0)) (q := 2) (by decide) (own_le rfl) ?_
    intro h6 H7
    replace H7 : own_H Z h6 (own_DP a (.ref ta) (.ref ca) (.int (2 : Int32)) :: os) ((ta, .double, "[D", ((.double (FP.i2d (za j0))) :: (.double (FP.i2d (za j1))) :: (.double (FP.i2d (za j0))) :: x3 :: x4 :: x5 :: tl)) :: (ca, (.object "com/example/slotwise/slotwise/Simulation$Connection"), "[Lcom/example/slotwise/slotwise/Simulation$Connection;", ((.ref (aa j0)) :: (.ref (aa j1)) :: (.ref (aa j0)) :: y3 :: y4 :: y5 :: tk)) :: as) := H7
    refine own_iload K own_d1_116 rfl ?_
    refine own_istore K own_d1_118 (Ls' := #[.val (.ref a), .val (.ref (aa j)), .val (.double (FP.i2d (za j))), .second, .val (.int (0 : Int32)), .val (.int (0 : Int32))]) rfl ?_
    refine own_goto K own_d1_120 ?_
    refine own_iload K own_d1_60 rfl ?_
    refine own_ifle K own_d1_62 (fun _ => ?_) (fun q => absurd (by decide) q)
    refine own_aloadN K own_d1_123 rfl rfl ?_
    refine own_getfield K own_d1_124 (host := "") (Or.inl (own_w38 hw)) Via.refl H7 (j := 0) rfl (q := 0) rfl ?_
    refine own_iload K own_d1_127 rfl ?_
    refine own_dloadN K own_d1_129 rfl ?_
    refine own_dastore K own_d1_130 H7 (i := 0) rfl (q := 0) (by decide) (own_le rfl) ?_
    intro h8 H9
    replace H9 : own_H Z h8 (own_DP a (.ref ta) (.ref ca) (.int (2 : Int32)) :: os) ((ta, .double, "[D", ((.double (FP.i2d (za j))) :: (.double (FP.i2d (za j1))) :: (.double (FP.i2d (za j0))) :: x3 :: x4 :: x5 :: tl)) :: (ca, (.object "com/example/slotwise/slotwise/Simulation$Connection"), "[Lcom/example/slotwise/slotwise/Simulation$Connection;", ((.ref (aa j0)) :: (.ref (aa j1)) :: (.ref (aa j0)) :: y3 :: y4 :: y5 :: tk)) :: as) := H9
    refine own_aloadN K own_d1_131 rfl rfl ?_
    refine own_getfield K own_d1_132 (host := "") (Or.inl (own_w41 hw)) Via.refl H9 (j := 0) rfl (q := 1) rfl ?_
    refine own_iload K own_d1_135 rfl ?_
    refine own_aloadN K own_d1_137 rfl rfl ?_
    refine own_aastoreR K own_d1_138 H9 (i := 1) rfl (by decide) (Ins.self (own_atC H9 ho hj)) (q := 0) (by decide) (own_le rfl) ?_
    intro h10 H11
    replace H11 : own_H Z h10 (own_DP a (.ref ta) (.ref ca) (.int (2 : Int32)) :: os) ((ta, .double, "[D", ((.double (FP.i2d (za j))) :: (.double (FP.i2d (za j1))) :: (.double (FP.i2d (za j0))) :: x3 :: x4 :: x5 :: tl)) :: (ca, (.object "com/example/slotwise/slotwise/Simulation$Connection"), "[Lcom/example/slotwise/slotwise/Simulation$Connection;", ((.ref (aa j)) :: (.ref (aa j1)) :: (.ref (aa j0)) :: y3 :: y4 :: y5 :: tk)) :: as) := H11
    refine own_aloadN K own_d1_139 rfl rfl ?_
    refine own_dup K own_d1_140 rfl ?_
    refine own_getfield K own_d1_141 (host := "") (Or.inl (own_w48 hw)) Via.refl H11 (j := 0) rfl (q := 2) rfl ?_
    refine own_iconst K own_d1_144 (v := (1 : Int32)) rfl ?_
    refine own_iadd K own_d1_145 ?_
    refine own_topI (x' := (3 : Int32)) (by decide) ?_
    refine own_putfield K own_d1_146 (host := "") (Or.inl (own_w48 hw)) Via.refl H11 (j := 0) rfl (q := 2) rfl (Or.inl (own_w49 hw)) (own_w31 hw) (ty := .int) (by decide +kernel) (rfl) rfl ?_
    intro h12 H13
    replace H13 : own_H Z h12 (own_DP a (.ref ta) (.ref ca) (.int (3 : Int32)) :: os) ((ta, .double, "[D", ((.double (FP.i2d (za j))) :: (.double (FP.i2d (za j1))) :: (.double (FP.i2d (za j0))) :: x3 :: x4 :: x5 :: tl)) :: (ca, (.object "com/example/slotwise/slotwise/Simulation$Connection"), "[Lcom/example/slotwise/slotwise/Simulation$Connection;", ((.ref (aa j)) :: (.ref (aa j1)) :: (.ref (aa j0)) :: y3 :: y4 :: y5 :: tk)) :: as) := H13
    exact own_retV K own_d1_149 (by decide) (by decide) (⟨rfl, j, j1, j0, List.Perm.cons j ((List.perm_middle (l₁ := [j1]) (a := j0) (l₂ := [])).trans (List.Perm.cons j0 (List.Perm.cons j1 (List.Perm.nil)))), by omega, by omega, hj, hj1, hj0, H13⟩)
  · rw [own_gtd] at g2
    refine own_goto K own_d1_85 ?_
    refine own_aloadN K own_d1_123 rfl rfl ?_
    refine own_getfield K own_d1_124 (host := "") (Or.inl (own_w38 hw)) Via.refl H (j := 0) rfl (q := 0) rfl ?_
    refine own_iload K own_d1_127 rfl ?_
    refine own_dloadN K own_d1_129 rfl ?_
    refine own_dastore K own_d1_130 H (i := 0) rfl (q := 2) (by decide) (own_le rfl) ?_
    intro h14 H15
    replace H15 : own_H Z h14 (own_DP a (.ref ta) (.ref ca) (.int (2 : Int32)) :: os) ((ta, .double, "[D", ((.double (FP.i2d (za j0))) :: (.double (FP.i2d (za j1))) :: (.double (FP.i2d (za j))) :: x3 :: x4 :: x5 :: tl)) :: (ca, (.object "com/example/slotwise/slotwise/Simulation$Connection"), "[Lcom/example/slotwise/slotwise/Simulation$Connection;", ((.ref (aa j0)) :: (.ref (aa j1)) :: y2 :: y3 :: y4 :: y5 :: tk)) :: as) := H15
    refine own_aloadN K own_d1_131 rfl rfl ?_
    refine own_getfield K own_d1_132 (host := "") (Or.inl (own_w41 hw)) Via.refl H15 (j := 0) rfl (q := 1) rfl ?_
    refine own_iload K own_d1_135 rfl ?_
    refine own_aloadN K own_d1_137 rfl rfl ?_
    refine own_aastoreR K own_d1_138 H15 (i := 1) rfl (by decide) (Ins.self (own_atC H15 ho hj)) (q := 2) (by decide) (own_le rfl) ?_
    intro h16 H17
    replace H17 : own_H Z h16 (own_DP a (.ref ta) (.ref ca) (.int (2 : Int32)) :: os) ((ta, .double, "[D", ((.double (FP.i2d (za j0))) :: (.double (FP.i2d (za j1))) :: (.double (FP.i2d (za j))) :: x3 :: x4 :: x5 :: tl)) :: (ca, (.object "com/example/slotwise/slotwise/Simulation$Connection"), "[Lcom/example/slotwise/slotwise/Simulation$Connection;", ((.ref (aa j0)) :: (.ref (aa j1)) :: (.ref (aa j)) :: y3 :: y4 :: y5 :: tk)) :: as) := H17
    refine own_aloadN K own_d1_139 rfl rfl ?_
    refine own_dup K own_d1_140 rfl ?_
    refine own_getfield K own_d1_141 (host := "") (Or.inl (own_w48 hw)) Via.refl H17 (j := 0) rfl (q := 2) rfl ?_
    refine own_iconst K own_d1_144 (v := (1 : Int32)) rfl ?_
    refine own_iadd K own_d1_145 ?_
    refine own_topI (x' := (3 : Int32)) (by decide) ?_
    refine own_putfield K own_d1_146 (host := "") (Or.inl (own_w48 hw)) Via.refl H17 (j := 0) rfl (q := 2) rfl (Or.inl (own_w49 hw)) (own_w31 hw) (ty := .int) (by decide +kernel) (rfl) rfl ?_
    intro h18 H19
    replace H19 : own_H Z h18 (own_DP a (.ref ta) (.ref ca) (.int (3 : Int32)) :: os) ((ta, .double, "[D", ((.double (FP.i2d (za j0))) :: (.double (FP.i2d (za j1))) :: (.double (FP.i2d (za j))) :: x3 :: x4 :: x5 :: tl)) :: (ca, (.object "com/example/slotwise/slotwise/Simulation$Connection"), "[Lcom/example/slotwise/slotwise/Simulation$Connection;", ((.ref (aa j0)) :: (.ref (aa j1)) :: (.ref (aa j)) :: y3 :: y4 :: y5 :: tk)) :: as) := H19
    exact own_retV K own_d1_149 (by decide) (by decide) (⟨rfl, j0, j1, j, (List.perm_middle (l₁ := [j0, j1]) (a := j) (l₂ := [])).trans (List.Perm.cons j (List.Perm.cons j0 (List.Perm.cons j1 (List.Perm.nil)))), by omega, by omega, hj0, hj1, hj, H19⟩)
set_option maxRecDepth 65536 in
set_option maxHeartbeats 40000000 in
theorem own_add3_ef (m : MethodId) (x0 : Addr) (x1 : Addr) : entryFrame m #[(.ref x0), (.ref x1)] 6 = mkF m 0 #[.val (.ref x0), .val (.ref x1), .unset, .unset, .unset, .unset] [] := by first | (simp [entryFrame, mkF, argsToLocals, Value.category]; done) | rfl
set_option maxRecDepth 65536 in
set_option maxHeartbeats 40000000 in
theorem own_add3 {l : Launch} {Z : State} {a0 : Array Value} (hw : own_Z Z a0) {h : Heap} {os : List own_O} {as : List own_A} {aa : Nat → Addr} {za : Nat → Int32} {a ta ca : Addr} {tl tk : List Value} {j j0 j1 j2 : Nat} {x3 x4 x5 y3 y4 y5 : Value} (htl : tl.length = 58) (H : own_H Z h (own_DP a (.ref ta) (.ref ca) (.int (3 : Int32)) :: os) ((ta, .double, "[D", ((.double (FP.i2d (za j0))) :: (.double (FP.i2d (za j1))) :: (.double (FP.i2d (za j2))) :: x3 :: x4 :: x5 :: tl)) :: (ca, (.object "com/example/slotwise/slotwise/Simulation$Connection"), "[Lcom/example/slotwise/slotwise/Simulation$Connection;", ((.ref (aa j0)) :: (.ref (aa j1)) :: (.ref (aa j2)) :: y3 :: y4 :: y5 :: tk)) :: as)) (ho : ∀ j, j < 6 → ∃ i : Nat, os[i]? = some (own_c aa za j)) (hj : j < 6) (hj0 : j0 < 6) (hj1 : j1 < 6) (hj2 : j2 < 6) (p0 : (za j0).toInt ≤ (za j1).toInt) (p1 : (za j0).toInt ≤ (za j2).toInt) : own_Met false l Z (⟨"com/example/slotwise/slotwise/Departures", "add", "(Lcom/example/slotwise/slotwise/Simulation$Connection;)V"⟩ : MethodName) prog_10_method_4_code 6 none [] ({ frames := 1, cells := 0, slots := 0, locals := 12 } : Room) #[(.ref a), (.ref (aa j))] h (fun v h' => v = none ∧ ∃ k0 k1 k2 k3, List.Perm [k0, k1, k2, k3] [j, j0, j1, j2] ∧ (za k0).toInt ≤ (za k1).toInt ∧ (za k0).toInt ≤ (za k2).toInt ∧ (za k1).toInt ≤ (za k3).toInt ∧ k0 < 6 ∧ k1 < 6 ∧ k2 < 6 ∧ k3 < 6 ∧ own_H Z h' (own_DP a (.ref ta) (.ref ca) (.int (4 : Int32)) :: os) ((ta, .double, "[D", ((.double (FP.i2d (za k0))) :: (.double (FP.i2d (za k1))) :: (.double (FP.i2d (za k2))) :: (.double (FP.i2d (za k3))) :: x4 :: x5 :: tl)) :: (ca, (.object "com/example/slotwise/slotwise/Simulation$Connection"), "[Lcom/example/slotwise/slotwise/Simulation$Connection;", ((.ref (aa k0)) :: (.ref (aa k1)) :: (.ref (aa k2)) :: (.ref (aa k3)) :: y4 :: y5 :: tk)) :: as)) := by
  refine own_met (by first | exact plainFor_of_name (by decide +kernel) | decide +kernel) ?_
  intro p e s m below meth c K
  refine own_cast (own_add3_ef m _ _) ?_
  obtain ⟨ix, hix⟩ := ho j hj
  refine own_aloadN K own_d1_0 rfl rfl ?_
  refine own_getfield K own_d1_1 (host := "") (Or.inl (own_w48 hw)) Via.refl H (j := 0) rfl (q := 2) rfl ?_
  refine own_aloadN K own_d1_4 rfl rfl ?_
  refine own_getfield K own_d1_5 (host := "") (Or.inl (own_w38 hw)) Via.refl H (j := 0) rfl (q := 0) rfl ?_
  refine own_arraylength K own_d1_8 H (i := 0) rfl (N := (64 : Int32)) (by simp only [List.length_cons, htl]; rfl) ?_
  refine own_icmpne K own_d1_9 (fun _ => ?_) (fun q => absurd (by decide) q)
  refine own_aloadN K own_d1_49 rfl rfl ?_
  refine own_virtual K own_d1_50 (own_w50 hw) (own_w51 hw) (own_w53 hw) (own_w52 hw) (own_w9 hw) (own_w54 hw) (H.atO (i := ix + 1) hix) (a := (aa j)) (argsL := []) (rest := []) (own_dep hw (H.frontO (ix + 1) hix)) own_pd0 rfl rfl rfl (by decide) (W := 0) (Nat.le_of_eq rfl) (by decide) (by decide) (by decide) (by decide) ?_
  intro v3 h1 q2
  obtain ⟨rfl, rfl⟩ := q2
  refine own_dstoreN K own_d1_53 (Ls' := #[.val (.ref a), .val (.ref (aa j)), .val (.double (FP.i2d (za j))), .second, .unset, .unset]) rfl ?_
  refine own_aloadN K own_d1_54 rfl rfl ?_
  refine own_getfield K own_d1_55 (host := "") (Or.inl (own_w48 hw)) Via.refl H (j := 0) rfl (q := 2) rfl ?_
  refine own_istore K own_d1_58 (Ls' := #[.val (.ref a), .val (.ref (aa j)), .val (.double (FP.i2d (za j))), .second, .val (.int (3 : Int32)), .unset]) rfl ?_
  refine own_iload K own_d1_60 rfl ?_
  refine own_ifle K own_d1_62 (fun q => absurd q (by decide)) (fun _ => ?_)
  refine own_iload K own_d1_65 rfl ?_
  refine own_iconst K own_d1_67 (v := (1 : Int32)) rfl ?_
  refine own_isub K own_d1_68 ?_
  refine own_topI (x' := (2 : Int32)) (by decide) ?_
  refine own_iconst K own_d1_69 (v := (1 : Int32)) rfl ?_
  refine own_iushr K own_d1_70 ?_
  refine own_topI (x' := (1 : Int32)) (by decide) ?_
  refine own_istore K own_d1_71 (Ls' := #[.val (.ref a), .val (.ref (aa j)), .val (.double (FP.i2d (za j))), .second, .val (.int (3 : Int32)), .val (.int (1 : Int32))]) rfl ?_
  refine own_aloadN K own_d1_73 rfl rfl ?_
  refine own_getfield K own_d1_74 (host := "") (Or.inl (own_w38 hw)) Via.refl H (j := 0) rfl (q := 0) rfl ?_
  refine own_iload K own_d1_77 rfl ?_
  refine own_daload K own_d1_79 H (i := 0) rfl (q := 1) (by decide) (rfl) ?_
  refine own_dloadN K own_d1_80 rfl ?_
  refine own_dcmp K own_d1_81 ?_
  refine own_ifgt K own_d1_82 (fun g3 => ?_) (fun g3 => ?_)
  · rw [own_gtd] at g3
    refine own_aloadN K own_d1_88 rfl rfl ?_
    refine own_getfield K own_d1_89 (host := "") (Or.inl (own_w38 hw)) Via.refl H (j := 0) rfl (q := 0) rfl ?_
    refine own_iload K own_d1_92 rfl ?_
    refine own_aloadN K own_d1_94 rfl rfl ?_
    refine own_getfield K own_d1_95 (host := "") (Or.inl (own_w38 hw)) Via.refl H (j := 0) rfl (q := 0) rfl ?_
    refine own_iload K own_d1_98 rfl ?_
    refine own_daload K own_d1_100 H (i := 0) rfl (q := 1) (by decide) (rfl) ?_
    refine own_dastore K own_d1_101 H (i := 0) rfl (q := 3) (by decide) (own_le rfl) ?_
    intro h4 H5
    replace H5 : own_H Z h4 (own_DP a (.ref ta) (.ref ca) (.int (3 : Int32)) :: os) ((ta, .double, "[D", ((.double (FP.i2d (za j0))) :: (.double (FP.i2d (za j1))) :: (.double (FP.i2d (za j2))) :: (.double (FP.i2d (za j1))) :: x4 :: x5 :: tl)) :: (ca, (.object "com/example/slotwise/slotwise/Simulation$Connection"), "[Lcom/example/slotwise/slotwise/Simulation$Connection;", ((.ref (aa j0)) :: (.ref (aa j1)) :: (.ref (aa j2)) :: y3 :: y4 :: y5 :: tk)) :: as) := H5
    refine own_aloadN K own_d1_102 rfl rfl ?_
    refine own_getfield K own_d1_103 (host := "") (Or.inl (own_w41 hw)) Via.refl H5 (j := 0) rfl (q := 1) rfl ?_
    refine own_iload K own_d1_106 rfl ?_
    refine own_aloadN K own_d1_108 rfl rfl ?_
    refine own_getfield K own_d1_109 (host := "") (Or.inl (own_w41 hw)) Via.refl H5 (j := 0) rfl (q := 1) rfl ?_
    refine own_iload K own_d1_112 rfl ?_
    refine own_aaload K own_d1_114 H5 (i := 1) rfl rfl (q := 1) (by decide) (rfl) ?_
    refine own_aastoreR K own_d1_115 H5 (i := 1) rfl (by decide) (Ins.self (own_atC H5 ho hj1)) (q := 3) (by decide) (own_le rfl) ?_
    intro h6 H7
    replace H7 : own_H Z h6 (own_DP a (.ref ta) (.ref ca) (.int (3 : Int32)) :: os) ((ta, .double, "[D", ((.double (FP.i2d (za j0))) :: (.double (FP.i2d (za j1))) :: (.double (FP.i2d (za j2))) :: (.double (FP.i2d (za j1))) :: x4 :: x5 :: tl)) :: (ca, (.object "com/example/slotwise/slotwise/Simulation$Connection"), "[Lcom/example/slotwise/slotwise/Simulation$Connection;", ((.ref (aa j0)) :: (.ref (aa j1)) :: (.ref (aa j2)) :: (.ref (aa j1)) :: y4 :: y5 :: tk)) :: as) := H7
    refine own_iload K own_d1_116 rfl ?_
    refine own_istore K own_d1_118 (Ls' := #[.val (.ref a), .val (.ref (aa j)), .val (.double (FP.i2d (za j))), .second, .val (.int (1 : Int32)), .val (.int (1 : Int32))]) rfl ?_
    refine own_goto K own_d1_120 ?_
    refine own_iload K own_d1_60 rfl ?_
    refine own_ifle K own_d1_62 (fun q => absurd q (by decide)) (fun _ => ?_)
    refine own_iload K own_d1_65 rfl ?_
    refine own_iconst K own_d1_67 (v := (1 : Int32)) rfl ?_
    refine own_isub K own_d1_68 ?_
    refine own_topI (x' := (0 : Int32)) (by decide) ?_
    refine own_iconst K own_d1_69 (v := (1 : Int32)) rfl ?_
    refine own_iushr K own_d1_70 ?_
    refine own_topI (x' := (0 : Int32)) (by decide) ?_
    refine own_istore K own_d1_71 (Ls' := #[.val (.ref a), .val (.ref (aa j)), .val (.double (FP.i2d (za j))), .second, .val (.int (1 : Int32)), .val (.int (0 : Int32))]) rfl ?_
    refine own_aloadN K own_d1_73 rfl rfl ?_
    refine own_getfield K own_d1_74 (host := "") (Or.inl (own_w38 hw)) Via.refl H7 (j := 0) rfl (q := 0) rfl ?_
    refine own_iload K own_d1_77 rfl ?_
    refine own_daload K own_d1_79 H7 (i := 0) rfl (q := 0) (by decide) (rfl) ?_
    refine own_dloadN K own_d1_80 rfl ?_
    refine own_dcmp K own_d1_81 ?_
    refine own_ifgt K own_d1_82 (fun g1 => ?_) (fun g1 => ?_)
    · rw [own_gtd] at g1
      refine own_aloadN K own_d1_88 rfl rfl ?_
      refine own_getfield K own_d1_89 (host := "") (Or.inl (own_w38 hw)) Via.refl H7 (j := 0) rfl (q := 0) rfl ?_
      refine own_iload K own_d1_92 rfl ?_
      refine own_aloadN K own_d1_94 rfl rfl ?_
      refine own_getfield K own_d1_95 (host := "") (Or.inl (own_w38 hw)) Via.refl H7 (j := 0) rfl (q := 0) rfl ?_
      refine own_iload K own_d1_98 rfl ?_
      refine own_daload K own_d1_100 H7 (i := 0) rfl (q := 0) (by decide) (rfl) ?_
      refine own_dastore K own_d1_101 H7 (i := 0) rfl (q := 1) (by decide) (own_le rfl) ?_
      intro h8 H9
      replace H9 : own_H Z h8 (own_DP a (.ref ta) (.ref ca) (.int (3 : Int32)) :: os) ((ta, .double, "[D", ((.double (FP.i2d (za j0))) :: (.double (FP.i2d (za j0))) :: (.double (FP.i2d (za j2))) :: (.double (FP.i2d (za j1))) :: x4 :: x5 :: tl)) :: (ca, (.object "com/example/slotwise/slotwise/Simulation$Connection"), "[Lcom/example/slotwise/slotwise/Simulation$Connection;", ((.ref (aa j0)) :: (.ref (aa j1)) :: (.ref (aa j2)) :: (.ref (aa j1)) :: y4 :: y5 :: tk)) :: as) := H9
      refine own_aloadN K own_d1_102 rfl rfl ?_
      refine own_getfield K own_d1_103 (host := "") (Or.inl (own_w41 hw)) Via.refl H9 (j := 0) rfl (q := 1) rfl ?_
      refine own_iload K own_d1_106 rfl ?_
      refine own_aloadN K own_d1_108 rfl rfl ?_
      refine own_getfield K own_d1_109 (host := "") (Or.inl (own_w41 hw)) Via.refl H9 (j := 0) rfl (q := 1) rfl ?_
      refine own_iload K own_d1_112 rfl ?_
      refine own_aaload K own_d1_114 H9 (i := 1) rfl rfl (q := 0) (by decide) (rfl) ?_
      refine own_aastoreR K own_d1_115 H9 (i := 1) rfl (by decide) (Ins.self (own_atC H9 ho hj0)) (q := 1) (by decide) (own_le rfl) ?_
      intro h10 H11
      replace H11 : own_H Z h10 (own_DP a (.ref ta) (.ref ca) (.int (3 : Int32)) :: os) ((ta, .double, "[D", ((.double (FP.i2d (za j0))) :: (.double (FP.i2d (za j0))) :: (.double (FP.i2d (za j2))) :: (.double (FP.i2d (za j1))) :: x4 :: x5 :: tl)) :: (ca, (.object "com/example/slotwise/slotwise/Simulation$Connection"), "[Lcom/example/slotwise/slotwise/Simulation$Connection;", ((.ref (aa j0)) :: (.ref (aa j0)) :: (.ref (aa j2)) :: (.ref (aa j1)) :: y4 :: y5 :: tk)) :: as) := H11
      refine own_iload K own_d1_116 rfl ?_
      refine own_istore K own_d1_118 (Ls' := #[.val (.ref a), .val (.ref (aa j)), .val (.double (FP.i2d (za j))), .second, .val (.int (0 : Int32)), .val (.int (0 : Int32))]) rfl ?_
      refine own_goto K own_d1_120 ?_
      refine own_iload K own_d1_60 rfl ?_
      refine own_ifle K own_d1_62 (fun _ => ?_) (fun q => absurd (by decide) q)
      refine own_aloadN K own_d1_123 rfl rfl ?_
      refine own_getfield K own_d1_124 (host := "") (Or.inl (own_w38 hw)) Via.refl H11 (j := 0) rfl (q := 0) rfl ?_
      refine own_iload K own_d1_127 rfl ?_
      refine own_dloadN K own_d1_129 rfl ?_
      refine own_dastore K own_d1_130 H11 (i := 0) rfl (q := 0) (by decide) (own_le rfl) ?_
      intro h12 H13
      replace H13 : own_H Z h12 (own_DP a (.ref ta) (.ref ca) (.int (3 : Int32)) :: os) ((ta, .double, "[D", ((.double (FP.i2d (za j))) :: (.double (FP.i2d (za j0))) :: (.double (FP.i2d (za j2))) :: (.double (FP.i2d (za j1))) :: x4 :: x5 :: tl)) :: (ca, (.object "com/example/slotwise/slotwise/Simulation$Connection"), "[Lcom/example/slotwise/slotwise/Simulation$Connection;", ((.ref (aa j0)) :: (.ref (aa j0)) :: (.ref (aa j2)) :: (.ref (aa j1)) :: y4 :: y5 :: tk)) :: as) := H13
      refine own_aloadN K own_d1_131 rfl rfl ?_
      refine own_getfield K own_d1_132 (host := "") (Or.inl (own_w41 hw)) Via.refl H13 (j := 0) rfl (q := 1) rfl ?_
      refine own_iload K own_d1_135 rfl ?_
      refine own_aloadN K own_d1_137 rfl rfl ?_
      refine own_aastoreR K own_d1_138 H13 (i := 1) rfl (by decide) (Ins.self (own_atC H13 ho hj)) (q := 0) (by decide) (own_le rfl) ?_
      intro h14 H15
      replace H15 : own_H Z h14 (own_DP a (.ref ta) (.ref ca) (.int (3 : Int32)) :: os) ((ta, .double, "[D", ((.double (FP.i2d (za j))) :: (.double (FP.i2d (za j0))) :: (.double (FP.i2d (za j2))) :: (.double (FP.i2d (za j1))) :: x4 :: x5 :: tl)) :: (ca, (.object "com/example/slotwise/slotwise/Simulation$Connection"), "[Lcom/example/slotwise/slotwise/Simulation$Connection;", ((.ref (aa j)) :: (.ref (aa j0)) :: (.ref (aa j2)) :: (.ref (aa j1)) :: y4 :: y5 :: tk)) :: as) := H15
      refine own_aloadN K own_d1_139 rfl rfl ?_
      refine own_dup K own_d1_140 rfl ?_
      refine own_getfield K own_d1_141 (host := "") (Or.inl (own_w48 hw)) Via.refl H15 (j := 0) rfl (q := 2) rfl ?_
      refine own_iconst K own_d1_144 (v := (1 : Int32)) rfl ?_
      refine own_iadd K own_d1_145 ?_
      refine own_topI (x' := (4 : Int32)) (by decide) ?_
      refine own_putfield K own_d1_146 (host := "") (Or.inl (own_w48 hw)) Via.refl H15 (j := 0) rfl (q := 2) rfl (Or.inl (own_w49 hw)) (own_w31 hw) (ty := .int) (by decide +kernel) (rfl) rfl ?_
      intro h16 H17
      replace H17 : own_H Z h16 (own_DP a (.ref ta) (.ref ca) (.int (4 : Int32)) :: os) ((ta, .double, "[D", ((.double (FP.i2d (za j))) :: (.double (FP.i2d (za j0))) :: (.double (FP.i2d (za j2))) :: (.double (FP.i2d (za j1))) :: x4 :: x5 :: tl)) :: (ca, (.object "com/example/slotwise/slotwise/Simulation$Connection"), "[Lcom/example/slotwise/slotwise/Simulation$Connection;", ((.ref (aa j)) :: (.ref (aa j0)) :: (.ref (aa j2)) :: (.ref (aa j1)) :: y4 :: y5 :: tk)) :: as) := H17
      exact own_retV K own_d1_149 (by decide) (by decide) (⟨rfl, j, j0, j2, j1, List.Perm.cons j (List.Perm.cons j0 ((List.perm_middle (l₁ := [j2]) (a := j1) (l₂ := [])).trans (List.Perm.cons j1 (List.Perm.cons j2 (List.Perm.nil))))), by omega, by omega, by omega, hj, hj0, hj2, hj1, H17⟩)
    · rw [own_gtd] at g1
      refine own_goto K own_d1_85 ?_
      refine own_aloadN K own_d1_123 rfl rfl ?_
      refine own_getfield K own_d1_124 (host := "") (Or.inl (own_w38 hw)) Via.refl H7 (j := 0) rfl (q := 0) rfl ?_
      refine own_iload K own_d1_127 rfl ?_
      refine own_dloadN K own_d1_129 rfl ?_
      refine own_dastore K own_d1_130 H7 (i := 0) rfl (q := 1) (by decide) (own_le rfl) ?_
      intro h18 H19
      replace H19 : own_H Z h18 (own_DP a (.ref ta) (.ref ca) (.int (3 : Int32)) :: os) ((ta, .double, "[D", ((.double (FP.i2d (za j0))) :: (.double (FP.i2d (za j))) :: (.double (FP.i2d (za j2))) :: (.double (FP.i2d (za j1))) :: x4 :: x5 :: tl)) :: (ca, (.object "com/example/slotwise/slotwise/Simulation$Connection"), "[Lcom/example/slotwise/slotwise/Simulation$Connection;", ((.ref (aa j0)) :: (.ref (aa j1)) :: (.ref (aa j2)) :: (.ref (aa j1)) :: y4 :: y5 :: tk)) :: as) := H19
      refine own_aloadN K own_d1_131 rfl rfl ?_
      refine own_getfield K own_d1_132 (host := "") (Or.inl (own_w41 hw)) Via.refl H19 (j := 0) rfl (q := 1) rfl ?_
      refine own_iload K own_d1_135 rfl ?_
      refine own_aloadN K own_d1_137 rfl rfl ?_
      refine own_aastoreR K own_d1_138 H19 (i := 1) rfl (by decide) (Ins.self (own_atC H19 ho hj)) (q := 1) (by decide) (own_le rfl) ?_
      intro h20 H21
      replace H21 : own_H Z h20 (own_DP a (.ref ta) (.ref ca) (.int (3 : Int32)) :: os) ((ta, .double, "[D", ((.double (FP.i2d (za j0))) :: (.double (FP.i2d (za j))) :: (.double (FP.i2d (za j2))) :: (.double (FP.i2d (za j1))) :: x4 :: x5 :: tl)) :: (ca, (.object "com/example/slotwise/slotwise/Simulation$Connection"), "[Lcom/example/slotwise/slotwise/Simulation$Connection;", ((.ref (aa j0)) :: (.ref (aa j)) :: (.ref (aa j2)) :: (.ref (aa j1)) :: y4 :: y5 :: tk)) :: as) := H21
      refine own_aloadN K own_d1_139 rfl rfl ?_
      refine own_dup K own_d1_140 rfl ?_
      refine own_getfield K own_d1_141 (host := "") (Or.inl (own_w48 hw)) Via.refl H21 (j := 0) rfl (q := 2) rfl ?_
      refine own_iconst K own_d1_144 (v := (1 : Int32)) rfl ?_
      refine own_iadd K own_d1_145 ?_
      refine own_topI (x' := (4 : Int32)) (by decide) ?_
      refine own_putfield K own_d1_146 (host := "") (Or.inl (own_w48 hw)) Via.refl H21 (j := 0) rfl (q := 2) rfl (Or.inl (own_w49 hw)) (own_w31 hw) (ty := .int) (by decide +kernel) (rfl) rfl ?_
      intro h22 H23
      replace H23 : own_H Z h22 (own_DP a (.ref ta) (.ref ca) (.int (4 : Int32)) :: os) ((ta, .double, "[D", ((.double (FP.i2d (za j0))) :: (.double (FP.i2d (za j))) :: (.double (FP.i2d (za j2))) :: (.double (FP.i2d (za j1))) :: x4 :: x5 :: tl)) :: (ca, (.object "com/example/slotwise/slotwise/Simulation$Connection"), "[Lcom/example/slotwise/slotwise/Simulation$Connection;", ((.ref (aa j0)) :: (.ref (aa j)) :: (.ref (aa j2)) :: (.ref (aa j1)) :: y4 :: y5 :: tk)) :: as) := H23
      exact own_retV K own_d1_149 (by decide) (by decide) (⟨rfl, j0, j, j2, j1, (List.perm_middle (l₁ := [j0]) (a := j) (l₂ := [j2, j1])).trans (List.Perm.cons j (List.Perm.cons j0 ((List.perm_middle (l₁ := [j2]) (a := j1) (l₂ := [])).trans (List.Perm.cons j1 (List.Perm.cons j2 (List.Perm.nil)))))), by omega, by omega, by omega, hj0, hj, hj2, hj1, H23⟩)
  · rw [own_gtd] at g3
    refine own_goto K own_d1_85 ?_
    refine own_aloadN K own_d1_123 rfl rfl ?_
    refine own_getfield K own_d1_124 (host := "") (Or.inl (own_w38 hw)) Via.refl H (j := 0) rfl (q := 0) rfl ?_
    refine own_iload K own_d1_127 rfl ?_
    refine own_dloadN K own_d1_129 rfl ?_
    refine own_dastore K own_d1_130 H (i := 0) rfl (q := 3) (by decide) (own_le rfl) ?_
    intro h24 H25
    replace H25 : own_H Z h24 (own_DP a (.ref ta) (.ref ca) (.int (3 : Int32)) :: os) ((ta, .double, "[D", ((.double (FP.i2d (za j0))) :: (.double (FP.i2d (za j1))) :: (.double (FP.i2d (za j2))) :: (.double (FP.i2d (za j))) :: x4 :: x5 :: tl)) :: (ca, (.object "com/example/slotwise/slotwise/Simulation$Connection"), "[Lcom/example/slotwise/slotwise/Simulation$Connection;", ((.ref (aa j0)) :: (.ref (aa j1)) :: (.ref (aa j2)) :: y3 :: y4 :: y5 :: tk)) :: as) := H25
    refine own_aloadN K own_d1_131 rfl rfl ?_
    refine own_getfield K own_d1_132 (host := "") (Or.inl (own_w41 hw)) Via.refl H25 (j := 0) rfl (q := 1) rfl ?_
    refine own_iload K own_d1_135 rfl ?_
    refine own_aloadN K own_d1_137 rfl rfl ?_
    refine own_aastoreR K own_d1_138 H25 (i := 1) rfl (by decide) (Ins.self (own_atC H25 ho hj)) (q := 3) (by decide) (own_le rfl) ?_
    intro h26 H27
    replace H27 : own_H Z h26 (own_DP a (.ref ta) (.ref ca) (.int (3 : Int32)) :: os) ((ta, .double, "[D", ((.double (FP.i2d (za j0))) :: (.double (FP.i2d (za j1))) :: (.double (FP.i2d (za j2))) :: (.double (FP.i2d (za j))) :: x4 :: x5 :: tl)) :: (ca, (.object "com/example/slotwise/slotwise/Simulation$Connection"), "[Lcom/example/slotwise/slotwise/Simulation$Connection;", ((.ref (aa j0)) :: (.ref (aa j1)) :: (.ref (aa j2)) :: (.ref (aa j)) :: y4 :: y5 :: tk)) :: as) := H27
    refine own_aloadN K own_d1_139 rfl rfl ?_
    refine own_dup K own_d1_140 rfl ?_
    refine own_getfield K own_d1_141 (host := "") (Or.inl (own_w48 hw)) Via.refl H27 (j := 0) rfl (q := 2) rfl ?_
    refine own_iconst K own_d1_144 (v := (1 : Int32)) rfl ?_
    refine own_iadd K own_d1_145 ?_
    refine own_topI (x' := (4 : Int32)) (by decide) ?_
    refine own_putfield K own_d1_146 (host := "") (Or.inl (own_w48 hw)) Via.refl H27 (j := 0) rfl (q := 2) rfl (Or.inl (own_w49 hw)) (own_w31 hw) (ty := .int) (by decide +kernel) (rfl) rfl ?_
    intro h28 H29
    replace H29 : own_H Z h28 (own_DP a (.ref ta) (.ref ca) (.int (4 : Int32)) :: os) ((ta, .double, "[D", ((.double (FP.i2d (za j0))) :: (.double (FP.i2d (za j1))) :: (.double (FP.i2d (za j2))) :: (.double (FP.i2d (za j))) :: x4 :: x5 :: tl)) :: (ca, (.object "com/example/slotwise/slotwise/Simulation$Connection"), "[Lcom/example/slotwise/slotwise/Simulation$Connection;", ((.ref (aa j0)) :: (.ref (aa j1)) :: (.ref (aa j2)) :: (.ref (aa j)) :: y4 :: y5 :: tk)) :: as) := H29
    exact own_retV K own_d1_149 (by decide) (by decide) (⟨rfl, j0, j1, j2, j, (List.perm_middle (l₁ := [j0, j1, j2]) (a := j) (l₂ := [])).trans (List.Perm.cons j (List.Perm.cons j0 (List.Perm.cons j1 (List.Perm.cons j2 (List.Perm.nil))))), by omega, by omega, by omega, hj0, hj1, hj2, hj, H29⟩)
set_option maxRecDepth 65536 in
set_option maxHeartbeats 40000000 in
theorem own_add4_ef (m : MethodId) (x0 : Addr) (x1 : Addr) : entryFrame m #[(.ref x0), (.ref x1)] 6 = mkF m 0 #[.val (.ref x0), .val (.ref x1), .unset, .unset, .unset, .unset] [] := by first | (simp [entryFrame, mkF, argsToLocals, Value.category]; done) | rfl
set_option maxRecDepth 65536 in
set_option maxHeartbeats 40000000 in
theorem own_add4 {l : Launch} {Z : State} {a0 : Array Value} (hw : own_Z Z a0) {h : Heap} {os : List own_O} {as : List own_A} {aa : Nat → Addr} {za : Nat → Int32} {a ta ca : Addr} {tl tk : List Value} {j j0 j1 j2 j3 : Nat} {x4 x5 y4 y5 : Value} (htl : tl.length = 58) (H : own_H Z h (own_DP a (.ref ta) (.ref ca) (.int (4 : Int32)) :: os) ((ta, .double, "[D", ((.double (FP.i2d (za j0))) :: (.double (FP.i2d (za j1))) :: (.double (FP.i2d (za j2))) :: (.double (FP.i2d (za j3))) :: x4 :: x5 :: tl)) :: (ca, (.object "com/example/slotwise/slotwise/Simulation$Connection"), "[Lcom/example/slotwise/slotwise/Simulation$Connection;", ((.ref (aa j0)) :: (.ref (aa j1)) :: (.ref (aa j2)) :: (.ref (aa j3)) :: y4 :: y5 :: tk)) :: as)) (ho : ∀ j, j < 6 → ∃ i : Nat, os[i]? = some (own_c aa za j)) (hj : j < 6) (hj0 : j0 < 6) (hj1 : j1 < 6) (hj2 : j2 < 6) (hj3 : j3 < 6) (p0 : (za j0).toInt ≤ (za j1).toInt) (p1 : (za j0).toInt ≤ (za j2).toInt) (p2 : (za j1).toInt ≤ (za j3).toInt) : own_Met false l Z (⟨"com/example/slotwise/slotwise/Departures", "add", "(Lcom/example/slotwise/slotwise/Simulation$Connection;)V"⟩ : MethodName) prog_10_method_4_code 6 none [] ({ frames := 1, cells := 0, slots := 0, locals := 12 } : Room) #[(.ref a), (.ref (aa j))] h (fun v h' => v = none ∧ ∃ k0 k1 k2 k3 k4, List.Perm [k0, k1, k2, k3, k4] [j, j0, j1, j2, j3] ∧ (za k0).toInt ≤ (za k1).toInt ∧ (za k0).toInt ≤ (za k2).toInt ∧ (za k1).toInt ≤ (za k3).toInt ∧ (za k1).toInt ≤ (za k4).toInt ∧ k0 < 6 ∧ k1 < 6 ∧ k2 < 6 ∧ k3 < 6 ∧ k4 < 6 ∧ own_H Z h' (own_DP a (.ref ta) (.ref ca) (.int (5 : Int32)) :: os) ((ta, .double, "[D", ((.double (FP.i2d (za k0))) :: (.double (FP.i2d (za k1))) :: (.double (FP.i2d (za k2))) :: (.double (FP.i2d (za k3))) :: (.double (FP.i2d (za k4))) :: x5 :: tl)) :: (ca, (.object "com/example/slotwise/slotwise/Simulation$Connection"), "[Lcom/example/slotwise/slotwise/Simulation$Connection;", ((.ref (aa k0)) :: (.ref (aa k1)) :: (.ref (aa k2)) :: (.ref (aa k3)) :: (.ref (aa k4)) :: y5 :: tk)) :: as)) := by
  refine own_met (by first | exact plainFor_of_name (by decide +kernel) | decide +kernel) ?_
  intro p e s m below meth c K
  refine own_cast (own_add4_ef m _ _) ?_
  obtain ⟨ix, hix⟩ := ho j hj
  refine own_aloadN K own_d1_0 rfl rfl ?_
  refine own_getfield K own_d1_1 (host := "") (Or.inl (own_w48 hw)) Via.refl H (j := 0) rfl (q := 2) rfl ?_
  refine own_aloadN K own_d1_4 rfl rfl ?_
  refine own_getfield K own_d1_5 (host := "") (Or.inl (own_w38 hw)) Via.refl H (j := 0) rfl (q := 0) rfl ?_
  refine own_arraylength K own_d1_8 H (i := 0) rfl (N := (64 : Int32)) (by simp only [List.length_cons, htl]; rfl) ?_
  refine own_icmpne K own_d1_9 (fun _ => ?_) (fun q => absurd (by decide) q)
  refine own_aloadN K own_d1_49 rfl rfl ?_
  refine own_virtual K own_d1_50 (own_w50 hw) (own_w51 hw) (own_w53 hw) (own_w52 hw) (own_w9 hw) (own_w54 hw) (H.atO (i := ix + 1) hix) (a := (aa j)) (argsL := []) (rest := []) (own_dep hw (H.frontO (ix + 1) hix)) own_pd0 rfl rfl rfl (by decide) (W := 0) (Nat.le_of_eq rfl) (by decide) (by decide) (by decide) (by decide) ?_
  intro v3 h1 q2
  obtain ⟨rfl, rfl⟩ := q2
  refine own_dstoreN K own_d1_53 (Ls' := #[.val (.ref a), .val (.ref (aa j)), .val (.double (FP.i2d (za j))), .second, .unset, .unset]) rfl ?_
  refine own_aloadN K own_d1_54 rfl rfl ?_
  refine own_getfield K own_d1_55 (host := "") (Or.inl (own_w48 hw)) Via.refl H (j := 0) rfl (q := 2) rfl ?_
  refine own_istore K own_d1_58 (Ls' := #[.val (.ref a), .val (.ref (aa j)), .val (.double (FP.i2d (za j))), .second, .val (.int (4 : Int32)), .unset]) rfl ?_
  refine own_iload K own_d1_60 rfl ?_
  refine own_ifle K own_d1_62 (fun q => absurd q (by decide)) (fun _ => ?_)
  refine own_iload K own_d1_65 rfl ?_
  refine own_iconst K own_d1_67 (v := (1 : Int32)) rfl ?_
  refine own_isub K own_d1_68 ?_
  refine own_topI (x' := (3 : Int32)) (by decide) ?_
  refine own_iconst K own_d1_69 (v := (1 : Int32)) rfl ?_
  refine own_iushr K own_d1_70 ?_
  refine own_topI (x' := (1 : Int32)) (by decide) ?_
  refine own_istore K own_d1_71 (Ls' := #[.val (.ref a), .val (.ref (aa j)), .val (.double (FP.i2d (za j))), .second, .val (.int (4 : Int32)), .val (.int (1 : Int32))]) rfl ?_
  refine own_aloadN K own_d1_73 rfl rfl ?_
  refine own_getfield K own_d1_74 (host := "") (Or.inl (own_w38 hw)) Via.refl H (j := 0) rfl (q := 0) rfl ?_
  refine own_iload K own_d1_77 rfl ?_
  refine own_daload K own_d1_79 H (i := 0) rfl (q := 1) (by decide) (rfl) ?_
  refine own_dloadN K own_d1_80 rfl ?_
  refine own_dcmp K own_d1_81 ?_
  refine own_ifgt K own_d1_82 (fun g4 => ?_) (fun g4 => ?_)
  · rw [own_gtd] at g4
    refine own_aloadN K own_d1_88 rfl rfl ?_
    refine own_getfield K own_d1_89 (host := "") (Or.inl (own_w38 hw)) Via.refl H (j := 0) rfl (q := 0) rfl ?_
    refine own_iload K own_d1_92 rfl ?_
    refine own_aloadN K own_d1_94 rfl rfl ?_
    refine own_getfield K own_d1_95 (host := "") (Or.inl (own_w38 hw)) Via.refl H (j := 0) rfl (q := 0) rfl ?_
    refine own_iload K own_d1_98 rfl ?_
    refine own_daload K own_d1_100 H (i := 0) rfl (q := 1) (by decide) (rfl) ?_
    refine own_dastore K own_d1_101 H (i := 0) rfl (q := 4) (by decide) (own_le rfl) ?_
    intro h4 H5
    replace H5 : own_H Z h4 (own_DP a (.ref ta) (.ref ca) (.int (4 : Int32)) :: os) ((ta, .double, "[D", ((.double (FP.i2d (za j0))) :: (.double (FP.i2d (za j1))) :: (.double (FP.i2d (za j2))) :: (.double (FP.i2d (za j3))) :: (.double (FP.i2d (za j1))) :: x5 :: tl)) :: (ca, (.object "com/example/slotwise/slotwise/Simulation$Connection"), "[Lcom/example/slotwise/slotwise/Simulation$Connection;", ((.ref (aa j0)) :: (.ref (aa j1)) :: (.ref (aa j2)) :: (.ref (aa j3)) :: y4 :: y5 :: tk)) :: as) := H5
    refine own_aloadN K own_d1_102 rfl rfl ?_
    refine own_getfield K own_d1_103 (host := "") (Or.inl (own_w41 hw)) Via.refl H5 (j := 0) rfl (q := 1) rfl ?_
    refine own_iload K own_d1_106 rfl ?_
    refine own_aloadN K own_d1_108 rfl rfl ?_
    refine own_getfield K own_d1_109 (host := "") (Or.inl (own_w41 hw)) Via.refl H5 (j := 0) rfl (q := 1) rfl ?_
    refine own_iload K own_d1_112 rfl ?_
    refine own_aaload K own_d1_114 H5 (i := 1) rfl rfl (q := 1) (by decide) (rfl) ?_
    refine own_aastoreR K own_d1_115 H5 (i := 1) rfl (by decide) (Ins.self (own_atC H5 ho hj1)) (q := 4) (by decide) (own_le rfl) ?_
    intro h6 H7
    replace H7 : own_H Z h6 (own_DP a (.ref ta) (.ref ca) (.int (4 : Int32)) :: os) ((ta, .double, "[D", ((.double (FP.i2d (za j0))) :: (.double (FP.i2d (za j1))) :: (.double (FP.i2d (za j2))) :: (.double (FP.i2d (za j3))) :: (.double (FP.i2d (za j1))) :: x5 :: tl)) :: (ca, (.object "com/example/slotwise/slotwise/Simulation$Connection"), "[Lcom/example/slotwise/slotwise/Simulation$Connection;", ((.ref (aa j0)) :: (.ref (aa j1)) :: (.ref (aa j2)) :: (.ref (aa j3)) :: (.ref (aa j1)) :: y5 :: tk)) :: as) := H7
    refine own_iload K own_d1_116 rfl ?_
    refine own_istore K own_d1_118 (Ls' := #[.val (.ref a), .val (.ref (aa j)), .val (.double (FP.i2d (za j))), .second, .val (.int (1 : Int32)), .val (.int (1 : Int32))]) rfl ?_
    refine own_goto K own_d1_120 ?_
    refine own_iload K own_d1_60 rfl ?_
    refine own_ifle K own_d1_62 (fun q => absurd q (by decide)) (fun _ => ?_)
    refine own_iload K own_d1_65 rfl ?_
    refine own_iconst K own_d1_67 (v := (1 : Int32)) rfl ?_
    refine own_isub K own_d1_68 ?_
    refine own_topI (x' := (0 : Int32)) (by decide) ?_
    refine own_iconst K own_d1_69 (v := (1 : Int32)) rfl ?_
    refine own_iushr K own_d1_70 ?_
    refine own_topI (x' := (0 : Int32)) (by decide) ?_
    refine own_istore K own_d1_71 (Ls' := #[.val (.ref a), .val (.ref (aa j)), .val (.double (FP.i2d (za j))), .second, .val (.int (1 : Int32)), .val (.int (0 : Int32))]) rfl ?_
    refine own_aloadN K own_d1_73 rfl rfl ?_
    refine own_getfield K own_d1_74 (host := "") (Or.inl (own_w38 hw)) Via.refl H7 (j := 0) rfl (q := 0) rfl ?_
    refine own_iload K own_d1_77 rfl ?_
    refine own_daload K own_d1_79 H7 (i := 0) rfl (q := 0) (by decide) (rfl) ?_
    refine own_dloadN K own_d1_80 rfl ?_
    refine own_dcmp K own_d1_81 ?_
    refine own_ifgt K own_d1_82 (fun g1 => ?_) (fun g1 => ?_)
    · rw [own_gtd] at g1
      refine own_aloadN K own_d1_88 rfl rfl ?_
      refine own_getfield K own_d1_89 (host := "") (Or.inl (own_w38 hw)) Via.refl H7 (j := 0) rfl (q := 0) rfl ?_
      refine own_iload K own_d1_92 rfl ?_
      refine own_aloadN K own_d1_94 rfl rfl ?_
      refine own_getfield K own_d1_95 (host := "") (Or.inl (own_w38 hw)) Via.refl H7 (j := 0) rfl (q := 0) rfl ?_
      refine own_iload K own_d1_98 rfl ?_
      refine own_daload K own_d1_100 H7 (i := 0) rfl (q := 0) (by decide) (rfl) ?_
      refine own_dastore K own_d1_101 H7 (i := 0) rfl (q := 1) (by decide) (own_le rfl) ?_
      intro h8 H9
      replace H9 : own_H Z h8 (own_DP a (.ref ta) (.ref ca) (.int (4 : Int32)) :: os) ((ta, .double, "[D", ((.double (FP.i2d (za j0))) :: (.double (FP.i2d (za j0))) :: (.double (FP.i2d (za j2))) :: (.double (FP.i2d (za j3))) :: (.double (FP.i2d (za j1))) :: x5 :: tl)) :: (ca, (.object "com/example/slotwise/slotwise/Simulation$Connection"), "[Lcom/example/slotwise/slotwise/Simulation$Connection;", ((.ref (aa j0)) :: (.ref (aa j1)) :: (.ref (aa j2)) :: (.ref (aa j3)) :: (.ref (aa j1)) :: y5 :: tk)) :: as) := H9
      refine own_aloadN K own_d1_102 rfl rfl ?_
      refine own_getfield K own_d1_103 (host := "") (Or.inl (own_w41 hw)) Via.refl H9 (j := 0) rfl (q := 1) rfl ?_
      refine own_iload K own_d1_106 rfl ?_
      refine own_aloadN K own_d1_108 rfl rfl ?_
      refine own_getfield K own_d1_109 (host := "") (Or.inl (own_w41 hw)) Via.refl H9 (j := 0) rfl (q := 1) rfl ?_
      refine own_iload K own_d1_112 rfl ?_
      refine own_aaload K own_d1_114 H9 (i := 1) rfl rfl (q := 0) (by decide) (rfl) ?_
      refine own_aastoreR K own_d1_115 H9 (i := 1) rfl (by decide) (Ins.self (own_atC H9 ho hj0)) (q := 1) (by decide) (own_le rfl) ?_
      intro h10 H11
      replace H11 : own_H Z h10 (own_DP a (.ref ta) (.ref ca) (.int (4 : Int32)) :: os) ((ta, .double, "[D", ((.double (FP.i2d (za j0))) :: (.double (FP.i2d (za j0))) :: (.double (FP.i2d (za j2))) :: (.double (FP.i2d (za j3))) :: (.double (FP.i2d (za j1))) :: x5 :: tl)) :: (ca, (.object "com/example/slotwise/slotwise/Simulation$Connection"), "[Lcom/example/slotwise/slotwise/Simulation$Connection;", ((.ref (aa j0)) :: (.ref (aa j0)) :: (.ref (aa j2)) :: (.ref (aa j3)) :: (.ref (aa j1)) :: y5 :: tk)) :: as) := H11
      refine own_iload K own_d1_116 rfl ?_
      refine own_istore K own_d1_118 (Ls' := #[.val (.ref a), .val (.ref (aa j)), .val (.double (FP.i2d (za j))), .second, .val (.int (0 : Int32)), .val (.int (0 : Int32))]) rfl ?_
      refine own_goto K own_d1_120 ?_
      refine own_iload K own_d1_60 rfl ?_
      refine own_ifle K own_d1_62 (fun _ => ?_) (fun q => absurd (by decide) q)
      refine own_aloadN K own_d1_123 rfl rfl ?_
      refine own_getfield K own_d1_124 (host := "") (Or.inl (own_w38 hw)) Via.refl H11 (j := 0) rfl (q := 0) rfl ?_
      refine own_iload K own_d1_127 rfl ?_
      refine own_dloadN K own_d1_129 rfl ?_
      refine own_dastore K own_d1_130 H11 (i := 0) rfl (q := 0) (by decide) (own_le rfl) ?_
      intro h12 H13
      replace H13 : own_H Z h12 (own_DP a (.ref ta) (.ref ca) (.int (4 : Int32)) :: os) ((ta, .double, "[D", ((.double (FP.i2d (za j))) :: (.double (FP.i2d (za j0))) :: (.double (FP.i2d (za j2))) :: (.double (FP.i2d (za j3))) :: (.double (FP.i2d (za j1))) :: x5 :: tl)) :: (ca, (.object "com/example/slotwise/slotwise/Simulation$Connection"), "[Lcom/example/slotwise/slotwise/Simulation$Connection;", ((.ref (aa j0)) :: (.ref (aa j0)) :: (.ref (aa j2)) :: (.ref (aa j3)) :: (.ref (aa j1)) :: y5 :: tk)) :: as) := H13
      refine own_aloadN K own_d1_131 rfl rfl ?_
      refine own_getfield K own_d1_132 (host := "") (Or.inl (own_w41 hw)) Via.refl H13 (j := 0) rfl (q := 1) rfl ?_
      refine own_iload K own_d1_135 rfl ?_
      refine own_aloadN K own_d1_137 rfl rfl ?_
      refine own_aastoreR K own_d1_138 H13 (i := 1) rfl (by decide) (Ins.self (own_atC H13 ho hj)) (q := 0) (by decide) (own_le rfl) ?_
      intro h14 H15
      replace H15 : own_H Z h14 (own_DP a (.ref ta) (.ref ca) (.int (4 : Int32)) :: os) ((ta, .double, "[D", ((.double (FP.i2d (za j))) :: (.double (FP.i2d (za j0))) :: (.double (FP.i2d (za j2))) :: (.double (FP.i2d (za j3))) :: (.double (FP.i2d (za j1))) :: x5 :: tl)) :: (ca, (.object "com/example/slotwise/slotwise/Simulation$Connection"), "[Lcom/example/slotwise/slotwise/Simulation$Connection;", ((.ref (aa j)) :: (.ref (aa j0)) :: (.ref (aa j2)) :: (.ref (aa j3)) :: (.ref (aa j1)) :: y5 :: tk)) :: as) := H15
      refine own_aloadN K own_d1_139 rfl rfl ?_
      refine own_dup K own_d1_140 rfl ?_
      refine own_getfield K own_d1_141 (host := "") (Or.inl (own_w48 hw)) Via.refl H15 (j := 0) rfl (q := 2) rfl ?_
      refine own_iconst K own_d1_144 (v := (1 : Int32)) rfl ?_
      refine own_iadd K own_d1_145 ?_
      refine own_topI (x' := (5 : Int32)) (by decide) ?_
      refine own_putfield K own_d1_146 (host := "") (Or.inl (own_w48 hw)) Via.refl H15 (j := 0) rfl (q := 2) rfl (Or.inl (own_w49 hw)) (own_w31 hw) (ty := .int) (by decide +kernel) (rfl) rfl ?_
      intro h16 H17
      replace H17 : own_H Z h16 (own_DP a (.ref ta) (.ref ca) (.int (5 : Int32)) :: os) ((ta, .double, "[D", ((.double (FP.i2d (za j))) :: (.double (FP.i2d (za j0))) :: (.double (FP.i2d (za j2))) :: (.double (FP.i2d (za j3))) :: (.double (FP.i2d (za j1))) :: x5 :: tl)) :: (ca, (.object "com/example/slotwise/slotwise/Simulation$Connection"), "[Lcom/example/slotwise/slotwise/Simulation$Connection;", ((.ref (aa j)) :: (.ref (aa j0)) :: (.ref (aa j2)) :: (.ref (aa j3)) :: (.ref (aa j1)) :: y5 :: tk)) :: as) := H17
      exact own_retV K own_d1_149 (by decide) (by decide) (⟨rfl, j, j0, j2, j3, j1, List.Perm.cons j (List.Perm.cons j0 ((List.perm_middle (l₁ := [j2, j3]) (a := j1) (l₂ := [])).trans (List.Perm.cons j1 (List.Perm.cons j2 (List.Perm.cons j3 (List.Perm.nil)))))), by omega, by omega, by omega, by omega, hj, hj0, hj2, hj3, hj1, H17⟩)
    · rw [own_gtd] at g1
      refine own_goto K own_d1_85 ?_
      refine own_aloadN K own_d1_123 rfl rfl ?_
      refine own_getfield K own_d1_124 (host := "") (Or.inl (own_w38 hw)) Via.refl H7 (j := 0) rfl (q := 0) rfl ?_
      refine own_iload K own_d1_127 rfl ?_
      refine own_dloadN K own_d1_129 rfl ?_
      refine own_dastore K own_d1_130 H7 (i := 0) rfl (q := 1) (by decide) (own_le rfl) ?_
      intro h18 H19
      replace H19 : own_H Z h18 (own_DP a (.ref ta) (.ref ca) (.int (4 : Int32)) :: os) ((ta, .double, "[D", ((.double (FP.i2d (za j0))) :: (.double (FP.i2d (za j))) :: (.double (FP.i2d (za j2))) :: (.double (FP.i2d (za j3))) :: (.double (FP.i2d (za j1))) :: x5 :: tl)) :: (ca, (.object "com/example/slotwise/slotwise/Simulation$Connection"), "[Lcom/example/slotwise/slotwise/Simulation$Connection;", ((.ref (aa j0)) :: (.ref (aa j1)) :: (.ref (aa j2)) :: (.ref (aa j3)) :: (.ref (aa j1)) :: y5 :: tk)) :: as) := H19
      refine own_aloadN K own_d1_131 rfl rfl ?_
      refine own_getfield K own_d1_132 (host := "") (Or.inl (own_w41 hw)) Via.refl H19 (j := 0) rfl (q := 1) rfl ?_
      refine own_iload K own_d1_135 rfl ?_
      refine own_aloadN K own_d1_137 rfl rfl ?_
      refine own_aastoreR K own_d1_138 H19 (i := 1) rfl (by decide) (Ins.self (own_atC H19 ho hj)) (q := 1) (by decide) (own_le rfl) ?_
      intro h20 H21
      replace H21 : own_H Z h20 (own_DP a (.ref ta) (.ref ca) (.int (4 : Int32)) :: os) ((ta, .double, "[D", ((.double (FP.i2d (za j0))) :: (.double (FP.i2d (za j))) :: (.double (FP.i2d (za j2))) :: (.double (FP.i2d (za j3))) :: (.double (FP.i2d (za j1))) :: x5 :: tl)) :: (ca, (.object "com/example/slotwise/slotwise/Simulation$Connection"), "[Lcom/example/slotwise/slotwise/Simulation$Connection;", ((.ref (aa j0)) :: (.ref (aa j)) :: (.ref (aa j2)) :: (.ref (aa j3)) :: (.ref (aa j1)) :: y5 :: tk)) :: as) := H21
      refine own_aloadN K own_d1_139 rfl rfl ?_
      refine own_dup K own_d1_140 rfl ?_
      refine own_getfield K own_d1_141 (host := "") (Or.inl (own_w48 hw)) Via.refl H21 (j := 0) rfl (q := 2) rfl ?_
      refine own_iconst K own_d1_144 (v := (1 : Int32)) rfl ?_
      refine own_iadd K own_d1_145 ?_
      refine own_topI (x' := (5 : Int32)) (by decide) ?_
      refine own_putfield K own_d1_146 (host := "") (Or.inl (own_w48 hw)) Via.refl H21 (j := 0) rfl (q := 2) rfl (Or.inl (own_w49 hw)) (own_w31 hw) (ty := .int) (by decide +kernel) (rfl) rfl ?_
      intro h22 H23
      replace H23 : own_H Z h22 (own_DP a (.ref ta) (.ref ca) (.int (5 : Int32)) :: os) ((ta, .double, "[D", ((.double (FP.i2d (za j0))) :: (.double (FP.i2d (za j))) :: (.double (FP.i2d (za j2))) :: (.double (FP.i2d (za j3))) :: (.double (FP.i2d (za j1))) :: x5 :: tl)) :: (ca, (.object "com/example/slotwise/slotwise/Simulation$Connection"), "[Lcom/example/slotwise/slotwise/Simulation$Connection;", ((.ref (aa j0)) :: (.ref (aa j)) :: (.ref (aa j2)) :: (.ref (aa j3)) :: (.ref (aa j1)) :: y5 :: tk)) :: as) := H23
      exact own_retV K own_d1_149 (by decide) (by decide) (⟨rfl, j0, j, j2, j3, j1, (List.perm_middle (l₁ := [j0]) (a := j) (l₂ := [j2, j3, j1])).trans (List.Perm.cons j (List.Perm.cons j0 ((List.perm_middle (l₁ := [j2, j3]) (a := j1) (l₂ := [])).trans (List.Perm.cons j1 (List.Perm.cons j2 (List.Perm.cons j3 (List.Perm.nil))))))), by omega, by omega, by omega, by omega, hj0, hj, hj2, hj3, hj1, H23⟩)
  · rw [own_gtd] at g4
    refine own_goto K own_d1_85 ?_
    refine own_aloadN K own_d1_123 rfl rfl ?_
    refine own_getfield K own_d1_124 (host := "") (Or.inl (own_w38 hw)) Via.refl H (j := 0) rfl (q := 0) rfl ?_
    refine own_iload K own_d1_127 rfl ?_
    refine own_dloadN K own_d1_129 rfl ?_
    refine own_dastore K own_d1_130 H (i := 0) rfl (q := 4) (by decide) (own_le rfl) ?_
    intro h24 H25
    replace H25 : own_H Z h24 (own_DP a (.ref ta) (.ref ca) (.int (4 : Int32)) :: os) ((ta, .double, "[D", ((.double (FP.i2d (za j0))) :: (.double (FP.i2d (za j1))) :: (.double (FP.i2d (za j2))) :: (.double (FP.i2d (za j3))) :: (.double (FP.i2d (za j))) :: x5 :: tl)) :: (ca, (.object "com/example/slotwise/slotwise/Simulation$Connection"), "[Lcom/example/slotwise/slotwise/Simulation$Connection;", ((.ref (aa j0)) :: (.ref (aa j1)) :: (.ref (aa j2)) :: (.ref (aa j3)) :: y4 :: y5 :: tk)) :: as) := H25
    refine own_aloadN K own_d1_131 rfl rfl ?_
    refine own_getfield K own_d1_132 (host := "") (Or.inl (own_w41 hw)) Via.refl H25 (j := 0) rfl (q := 1) rfl ?_
    refine own_iload K own_d1_135 rfl ?_
    refine own_aloadN K own_d1_137 rfl rfl ?_
    refine own_aastoreR K own_d1_138 H25 (i := 1) rfl (by decide) (Ins.self (own_atC H25 ho hj)) (q := 4) (by decide) (own_le rfl) ?_
    intro h26 H27
    replace H27 : own_H Z h26 (own_DP a (.ref ta) (.ref ca) (.int (4 : Int32)) :: os) ((ta, .double, "[D", ((.double (FP.i2d (za j0))) :: (.double (FP.i2d (za j1))) :: (.double (FP.i2d (za j2))) :: (.double (FP.i2d (za j3))) :: (.double (FP.i2d (za j))) :: x5 :: tl)) :: (ca, (.object "com/example/slotwise/slotwise/Simulation$Connection"), "[Lcom/example/slotwise/slotwise/Simulation$Connection;", ((.ref (aa j0)) :: (.ref (aa j1)) :: (.ref (aa j2)) :: (.ref (aa j3)) :: (.ref (aa j)) :: y5 :: tk)) :: as) := H27
    refine own_aloadN K own_d1_139 rfl rfl ?_
    refine own_dup K own_d1_140 rfl ?_
    refine own_getfield K own_d1_141 (host := "") (Or.inl (own_w48 hw)) Via.refl H27 (j := 0) rfl (q := 2) rfl ?_
    refine own_iconst K own_d1_144 (v := (1 : Int32)) rfl ?_
    refine own_iadd K own_d1_145 ?_
    refine own_topI (x' := (5 : Int32)) (by decide) ?_
    refine own_putfield K own_d1_146 (host := "") (Or.inl (own_w48 hw)) Via.refl H27 (j := 0) rfl (q := 2) rfl (Or.inl (own_w49 hw)) (own_w31 hw) (ty := .int) (by decide +kernel) (rfl) rfl ?_
    intro h28 H29
    replace H29 : own_H Z h28 (own_DP a (.ref ta) (.ref ca) (.int (5 : Int32)) :: os) ((ta, .double, "[D", ((.double (FP.i2d (za j0))) :: (.double (FP.i2d (za j1))) :: (.double (FP.i2d (za j2))) :: (.double (FP.i2d (za j3))) :: (.double (FP.i2d (za j))) :: x5 :: tl)) :: (ca, (.object "com/example/slotwise/slotwise/Simulation$Connection"), "[Lcom/example/slotwise/slotwise/Simulation$Connection;", ((.ref (aa j0)) :: (.ref (aa j1)) :: (.ref (aa j2)) :: (.ref (aa j3)) :: (.ref (aa j)) :: y5 :: tk)) :: as) := H29
    exact own_retV K own_d1_149 (by decide) (by decide) (⟨rfl, j0, j1, j2, j3, j, (List.perm_middle (l₁ := [j0, j1, j2, j3]) (a := j) (l₂ := [])).trans (List.Perm.cons j (List.Perm.cons j0 (List.Perm.cons j1 (List.Perm.cons j2 (List.Perm.cons j3 (List.Perm.nil)))))), by omega, by omega, by omega, by omega, hj0, hj1, hj2, hj3, hj, H29⟩)
set_option maxRecDepth 65536 in
set_option maxHeartbeats 40000000 in
theorem own_add5_ef (m : MethodId) (x0 : Addr) (x1 : Addr) : entryFrame m #[(.ref x0), (.ref x1)] 6 = mkF m 0 #[.val (.ref x0), .val (.ref x1), .unset, .unset, .unset, .unset] [] := by first | (simp [entryFrame, mkF, argsToLocals, Value.category]; done) | rfl
set_option maxRecDepth 65536 in
set_option maxHeartbeats 40000000 in
theorem own_add5 {l : Launch} {Z : State} {a0 : Array Value} (hw : own_Z Z a0) {h : Heap} {os : List own_O} {as : List own_A} {aa : Nat → Addr} {za : Nat → Int32} {a ta ca : Addr} {tl tk : List Value} {j j0 j1 j2 j3 j4 : Nat} {x5 y5 : Value} (htl : tl.length = 58) (H : own_H Z h (own_DP a (.ref ta) (.ref ca) (.int (5 : Int32)) :: os) ((ta, .double, "[D", ((.double (FP.i2d (za j0))) :: (.double (FP.i2d (za j1))) :: (.double (FP.i2d (za j2))) :: (.double (FP.i2d (za j3))) :: (.double (FP.i2d (za j4))) :: x5 :: tl)) :: (ca, (.object "com/example/slotwise/slotwise/Simulation$Connection"), "[Lcom/example/slotwise/slotwise/Simulation$Connection;", ((.ref (aa j0)) :: (.ref (aa j1)) :: (.ref (aa j2)) :: (.ref (aa j3)) :: (.ref (aa j4)) :: y5 :: tk)) :: as)) (ho : ∀ j, j < 6 → ∃ i : Nat, os[i]? = some (own_c aa za j)) (hj : j < 6) (hj0 : j0 < 6) (hj1 : j1 < 6) (hj2 : j2 < 6) (hj3 : j3 < 6) (hj4 : j4 < 6) (p0 : (za j0).toInt ≤ (za j1).toInt) (p1 : (za j0).toInt ≤ (za j2).toInt) (p2 : (za j1).toInt ≤ (za j3).toInt) (p3 : (za j1).toInt ≤ (za j4).toInt) : own_Met false l Z (⟨"com/example/slotwise/slotwise/Departures", "add", "(Lcom/example/slotwise/slotwise/Simulation$Connection;)V"⟩ : MethodName) prog_10_method_4_code 6 none [] ({ frames := 1, cells := 0, slots := 0, locals := 12 } : Room) #[(.ref a), (.ref (aa j))] h (fun v h' => v = none ∧ ∃ k0 k1 k2 k3 k4 k5, List.Perm [k0, k1, k2, k3, k4, k5] [j, j0, j1, j2, j3, j4] ∧ (za k0).toInt ≤ (za k1).toInt ∧ (za k0).toInt ≤ (za k2).toInt ∧ (za k1).toInt ≤ (za k3).toInt ∧ (za k1).toInt ≤ (za k4).toInt ∧ (za k2).toInt ≤ (za k5).toInt ∧ k0 < 6 ∧ k1 < 6 ∧ k2 < 6 ∧ k3 < 6 ∧ k4 < 6 ∧ k5 < 6 ∧ own_H Z h' (own_DP a (.ref ta) (.ref ca) (.int (6 : Int32)) :: os) ((ta, .double, "[D", ((.double (FP.i2d (za k0))) :: (.double (FP.i2d (za k1))) :: (.double (FP.i2d (za k2))) :: (.double (FP.i2d (za k3))) :: (.double (FP.i2d (za k4))) :: (.double (FP.i2d (za k5))) :: tl)) :: (ca, (.object "com/example/slotwise/slotwise/Simulation$Connection"), "[Lcom/example/slotwise/slotwise/Simulation$Connection;", ((.ref (aa k0)) :: (.ref (aa k1)) :: (.ref (aa k2)) :: (.ref (aa k3)) :: (.ref (aa k4)) :: (.ref (aa k5)) :: tk)) :: as)) := by
  refine own_met (by first | exact plainFor_of_name (by decide +kernel) | decide +kernel) ?_
  intro p e s m below meth c K
  refine own_cast (own_add5_ef m _ _) ?_
  obtain ⟨ix, hix⟩ := ho j hj
  refine own_aloadN K own_d1_0 rfl rfl ?_
  refine own_getfield K own_d1_1 (host := "") (Or.inl (own_w48 hw)) Via.refl H (j := 0) rfl (q := 2) rfl ?_
  refine own_aloadN K own_d1_4 rfl rfl ?_
  refine own_getfield K own_d1_5 (host := "") (Or.inl (own_w38 hw)) Via.refl H (j := 0) rfl (q := 0) rfl ?_
  refine own_arraylength K own_d1_8 H (i := 0) rfl (N := (64 : Int32)) (by simp only [List.length_cons, htl]; rfl) ?_
  refine own_icmpne K own_d1_9 (fun _ => ?_) (fun q => absurd (by decide) q)
  refine own_aloadN K own_d1_49 rfl rfl ?_
  refine own_virtual K own_d1_50 (own_w50 hw) (own_w51 hw) (own_w53 hw) (own_w52 hw) (own_w9 hw) (own_w54 hw) (H.atO (i := ix + 1) hix) (a := (aa j)) (argsL := []) (rest := []) (own_dep hw (H.frontO (ix + 1) hix)) own_pd0 rfl rfl rfl (by decide) (W := 0) (Nat.le_of_eq rfl) (by decide) (by decide) (by decide) (by decide) ?_
  intro v3 h1 q2
  obtain ⟨rfl, rfl⟩ := q2
  refine own_dstoreN K own_d1_53 (Ls' := #[.val (.ref a), .val (.ref (aa j)), .val (.double (FP.i2d (za j))), .second, .unset, .unset]) rfl ?_
  refine own_aloadN K own_d1_54 rfl rfl ?_
  refine own_getfield K own_d1_55 (host := "") (Or.inl (own_w48 hw)) Via.refl H (j := 0) rfl (q := 2) rfl ?_
  refine own_istore K own_d1_58 (Ls' := #[.val (.ref a), .val (.ref (aa j)), .val (.double (FP.i2d (za j))), .second, .val (.int (5 : Int32)), .unset]) rfl ?_
  refine own_iload K own_d1_60 rfl ?_
  refine own_ifle K own_d1_62 (fun q => absurd q (by decide)) (fun _ => ?_)
  refine own_iload K own_d1_65 rfl ?_
  refine own_iconst K own_d1_67 (v := (1 : Int32)) rfl ?_
  refine own_isub K own_d1_68 ?_
  refine own_topI (x' := (4 : Int32)) (by decide) ?_
  refine own_iconst K own_d1_69 (v := (1 : Int32)) rfl ?_
  refine own_iushr K own_d1_70 ?_
  refine own_topI (x' := (2 : Int32)) (by decide) ?_
  refine own_istore K own_d1_71 (Ls' := #[.val (.ref a), .val (.ref (aa j)), .val (.double (FP.i2d (za j))), .second, .val (.int (5 : Int32)), .val (.int (2 : Int32))]) rfl ?_
  refine own_aloadN K own_d1_73 rfl rfl ?_
  refine own_getfield K own_d1_74 (host := "") (Or.inl (own_w38 hw)) Via.refl H (j := 0) rfl (q := 0) rfl ?_
  refine own_iload K own_d1_77 rfl ?_
  refine own_daload K own_d1_79 H (i := 0) rfl (q := 2) (by decide) (rfl) ?_
  refine own_dloadN K own_d1_80 rfl ?_
  refine own_dcmp K own_d1_81 ?_
  refine own_ifgt K own_d1_82 (fun g5 => ?_) (fun g5 => ?_)
  · rw [own_gtd] at g5
    refine own_aloadN K own_d1_88 rfl rfl ?_
    refine own_getfield K own_d1_89 (host := "") (Or.inl (own_w38 hw)) Via.refl H (j := 0) rfl (q := 0) rfl ?_
    refine own_iload K own_d1_92 rfl ?_
    refine own_aloadN K own_d1_94 rfl rfl ?_
    refine own_getfield K own_d1_95 (host := "") (Or.inl (own_w38 hw)) Via.refl H (j := 0) rfl (q := 0) rfl ?_
    refine own_iload K own_d1_98 rfl ?_
    refine own_daload K own_d1_100 H (i := 0) rfl (q := 2) (by decide) (rfl) ?_
    refine own_dastore K own_d1_101 H (i := 0) rfl (q := 5) (by decide) (own_le rfl) ?_
    intro h4 H5
    replace H5 : own_H Z h4 (own_DP a (.ref ta) (.ref ca) (.int (5 : Int32)) :: os) ((ta, .double, "[D", ((.double (FP.i2d (za j0))) :: (.double (FP.i2d (za j1))) :: (.double (FP.i2d (za j2))) :: (.double (FP.i2d (za j3))) :: (.double (FP.i2d (za j4))) :: (.double (FP.i2d (za j2))) :: tl)) :: (ca, (.object "com/example/slotwise/slotwise/Simulation$Connection"), "[Lcom/example/slotwise/slotwise/Simulation$Connection;", ((.ref (aa j0)) :: (.ref (aa j1)) :: (.ref (aa j2)) :: (.ref (aa j3)) :: (.ref (aa j4)) :: y5 :: tk)) :: as) := H5
    refine own_aloadN K own_d1_102 rfl rfl ?_
    refine own_getfield K own_d1_103 (host := "") (Or.inl (own_w41 hw)) Via.refl H5 (j := 0) rfl (q := 1) rfl ?_
    refine own_iload K own_d1_106 rfl ?_
    refine own_aloadN K own_d1_108 rfl rfl ?_
    refine own_getfield K own_d1_109 (host := "") (Or.inl (own_w41 hw)) Via.refl H5 (j := 0) rfl (q := 1) rfl ?_
    refine own_iload K own_d1_112 rfl ?_
    refine own_aaload K own_d1_114 H5 (i := 1) rfl rfl (q := 2) (by decide) (rfl) ?_
    refine own_aastoreR K own_d1_115 H5 (i := 1) rfl (by decide) (Ins.self (own_atC H5 ho hj2)) (q := 5) (by decide) (own_le rfl) ?_
    intro h6 H7
    replace H7 : own_H Z h6 (own_DP a (.ref ta) (.ref ca) (.int (5 : Int32)) :: os) ((ta, .double, "[D", ((.double (FP.i2d (za j0))) :: (.double (FP.i2d (za j1))) :: (.double (FP.i2d (za j2))) :: (.double (FP.i2d (za j3))) :: (.double (FP.i2d (za j4))) :: (.double (FP.i2d (za j2))) :: tl)) :: (ca, (.object "com/example/slotwise/slotwise/Simulation$Connection"), "[Lcom/example/slotwise/slotwise/Simulation$Connection;", ((.ref (aa j0)) :: (.ref (aa j1)) :: (.ref (aa j2)) :: (.ref (aa j3)) :: (.ref (aa j4)) :: (.ref (aa j2)) :: tk)) :: as) := H7
    refine own_iload K own_d1_116 rfl ?_
    refine own_istore K own_d1_118 (Ls' := #[.val (.ref a), .val (.ref (aa j)), .val (.double (FP.i2d (za j))), .second, .val (.int (2 : Int32)), .val (.int (2 : Int32))]) rfl ?_
    refine own_goto K own_d1_120 ?_
    refine own_iload K own_d1_60 rfl ?_
    refine own_ifle K own_d1_62 (fun q => absurd q (by decide)) (fun _ => ?_)
    refine own_iload K own_d1_65 rfl ?_
    refine own_iconst K own_d1_67 (v := (1 : Int32)) rfl ?_
    refine own_isub K own_d1_68 ?_
    refine own_topI (x' := (1 : Int32)) (by decide) ?_
    refine own_iconst K own_d1_69 (v := (1 : Int32)) rfl ?_
    refine own_iushr K own_d1_70 ?_
    refine own_topI (x' := (0 : Int32)) (by decide) ?_
    refine own_istore K own_d1_71 (Ls' := #[.val (.ref a), .val (.ref (aa j)), .val (.double (FP.i2d (za j))), .second, .val (.int (2 : Int32)), .val (.int (0 : Int32))]) rfl ?_
    refine own_aloadN K own_d1_73 rfl rfl ?_
    refine own_getfield K own_d1_74 (host := "") (Or.inl (own_w38 hw)) Via.refl H7 (j := 0) rfl (q := 0) rfl ?_
    refine own_iload K own_d1_77 rfl ?_
    refine own_daload K own_d1_79 H7 (i := 0) rfl (q := 0) (by decide) (rfl) ?_
    refine own_dloadN K own_d1_80 rfl ?_
    refine own_dcmp K own_d1_81 ?_
    refine own_ifgt K own_d1_82 (fun g2 => ?_) (fun g2 => ?_)
    · rw [own_gtd] at g2
      refine own_aloadN K own_d1_88 rfl rfl ?_
      refine own_getfield K own_d1_89 (host := "") (Or.inl (own_w38 hw)) Via.refl H7 (j := 0) rfl (q := 0) rfl ?_
      refine own_iload K own_d1_92 rfl ?_
      refine own_aloadN K own_d1_94 rfl rfl ?_
      refine own_getfield K own_d1_95 (host := "") (Or.inl (own_w38 hw)) Via.refl H7 (j := 0) rfl (q := 0) rfl ?_
      refine own_iload K own_d1_98 rfl ?_
      refine own_daload K own_d1_100 H7 (i := 0) rfl (q := 0) (by decide) (rfl) ?_
      refine own_dastore K own_d1_101 H7 (i := 0) rfl (q := 2) (by decide) (own_le rfl) ?_
      intro h8 H9
      replace H9 : own_H Z h8 (own_DP a (.ref ta) (.ref ca) (.int (5 : Int32)) :: os) ((ta, .double, "[D", ((.double (FP.i2d (za j0))) :: (.double (FP.i2d (za j1))) :: (.double (FP.i2d (za j0))) :: (.double (FP.i2d (za j3))) :: (.double (FP.i2d (za j4))) :: (.double (FP.i2d (za j2))) :: tl)) :: (ca, (.object "com/example/slotwise/slotwise/Simulation$Connection"), "[Lcom/example/slotwise/slotwise/Simulation$Connection;", ((.ref (aa j0)) :: (.ref (aa j1)) :: (.ref (aa j2)) :: (.ref (aa j3)) :: (.ref (aa j4)) :: (.ref (aa j2)) :: tk)) :: as) := H9
      refine own_aloadN K own_d1_102 rfl rfl ?_
      refine own_getfield K own_d1_103 (host := "") (Or.inl (own_w41 hw)) Via.refl H9 (j := 0) rfl (q := 1) rfl ?_
      refine own_iload K own_d1_106 rfl ?_
      refine own_aloadN K own_d1_108 rfl rfl ?_
      refine own_getfield K own_d1_109 (host := "") (Or.inl (own_w41 hw)) Via.refl H9 (j := 0) rfl (q := 1) rfl ?_
      refine own_iload K own_d1_112 rfl ?_
      refine own_aaload K own_d1_114 H9 (i := 1) rfl rfl (q := 0) (by decide) (rfl) ?_
      refine own_aastoreR K own_d1_115 H9 (i := 1) rfl (by decide) (Ins.self (own_atC H9 ho hj0)) (q := 2) (by decide) (own_le rfl) ?_
      intro h10 H11
      replace H11 : own_H Z h10 (own_DP a (.ref ta) (.ref ca) (.int (5 : Int32)) :: os) ((ta, .double, "[D", ((.double (FP.i2d (za j0))) :: (.double (FP.i2d (za j1))) :: (.double (FP.i2d (za j0))) :: (.double (FP.i2d (za j3))) :: (.double (FP.i2d (za j4))) :: (.double (FP.i2d (za j2))) :: tl)) :: (ca, (.object "com/example/slotwise/slotwise/Simulation$Connection"), "[Lcom/example/slotwise/slotwise/Simulation$Connection;", ((.ref (aa j0)) :: (.ref (aa j1)) :: (.ref (aa j0)) :: (.ref (aa j3)) :: (.ref (aa j4)) :: (.ref (aa j2)) :: tk)) :: as) := H11
      refine own_iload K own_d1_116 rfl ?_
      refine own_istore K own_d1_118 (Ls' := #[.val (.ref a), .val (.ref (aa j)), .val (.double (FP.i2d (za j))), .second, .val (.int (0 : Int32)), .val (.int (0 : Int32))]) rfl ?_
      refine own_goto K own_d1_120 ?_
      refine own_iload K own_d1_60 rfl ?_
      refine own_ifle K own_d1_62 (fun _ => ?_) (fun q => absurd (by decide) q)
      refine own_aloadN K own_d1_123 rfl rfl ?_
      refine own_getfield K own_d1_124 (host := "") (Or.inl (own_w38 hw)) Via.refl H11 (j := 0) rfl (q := 0) rfl ?_
      refine own_iload K own_d1_127 rfl ?_
      refine own_dloadN K own_d1_129 rfl ?_
      refine own_dastore K own_d1_130 H11 (i := 0) rfl (q := 0) (by decide) (own_le rfl) ?_
      intro h12 H13
      replace H13 : own_H Z h12 (own_DP a (.ref ta) (.ref ca) (.int (5 : Int32)) :: os) ((ta, .double, "[D", ((.double (FP.i2d (za j))) :: (.double (FP.i2d (za j1))) :: (.double (FP.i2d (za j0))) :: (.double (FP.i2d (za j3))) :: (.double (FP.i2d (za j4))) :: (.double (FP.i2d (za j2))) :: tl)) :: (ca, (.object "com/example/slotwise/slotwise/Simulation$Connection"), "[Lcom/example/slotwise/slotwise/Simulation$Connection;", ((.ref (aa j0)) :: (.ref (aa j1)) :: (.ref (aa j0)) :: (.ref (aa j3)) :: (.ref (aa j4)) :: (.ref (aa j2)) :: tk)) :: as) := H13
      refine own_aloadN K own_d1_131 rfl rfl ?_
      refine own_getfield K own_d1_132 (host := "") (Or.inl (own_w41 hw)) Via.refl H13 (j := 0) rfl (q := 1) rfl ?_
      refine own_iload K own_d1_135 rfl ?_
      refine own_aloadN K own_d1_137 rfl rfl ?_
      refine own_aastoreR K own_d1_138 H13 (i := 1) rfl (by decide) (Ins.self (own_atC H13 ho hj)) (q := 0) (by decide) (own_le rfl) ?_
      intro h14 H15
      replace H15 : own_H Z h14 (own_DP a (.ref ta) (.ref ca) (.int (5 : Int32)) :: os) ((ta, .double, "[D", ((.double (FP.i2d (za j))) :: (.double (FP.i2d (za j1))) :: (.double (FP.i2d (za j0))) :: (.double (FP.i2d (za j3))) :: (.double (FP.i2d (za j4))) :: (.double (FP.i2d (za j2))) :: tl)) :: (ca, (.object "com/example/slotwise/slotwise/Simulation$Connection"), "[Lcom/example/slotwise/slotwise/Simulation$Connection;", ((.ref (aa j)) :: (.ref (aa j1)) :: (.ref (aa j0)) :: (.ref (aa j3)) :: (.ref (aa j4)) :: (.ref (aa j2)) :: tk)) :: as) := H15
      refine own_aloadN K own_d1_139 rfl rfl ?_
      refine own_dup K own_d1_140 rfl ?_
      refine own_getfield K own_d1_141 (host := "") (Or.inl (own_w48 hw)) Via.refl H15 (j := 0) rfl (q := 2) rfl ?_
      refine own_iconst K own_d1_144 (v := (1 : Int32)) rfl ?_
      refine own_iadd K own_d1_145 ?_
      refine own_topI (x' := (6 : Int32)) (by decide) ?_
      refine own_putfield K own_d1_146 (host := "") (Or.inl (own_w48 hw)) Via.refl H15 (j := 0) rfl (q := 2) rfl (Or.inl (own_w49 hw)) (own_w31 hw) (ty := .int) (by decide +kernel) (rfl) rfl ?_
      intro h16 H17
      replace H17 : own_H Z h16 (own_DP a (.ref ta) (.ref ca) (.int (6 : Int32)) :: os) ((ta, .double, "[D", ((.double (FP.i2d (za j))) :: (.double (FP.i2d (za j1))) :: (.double (FP.i2d (za j0))) :: (.double (FP.i2d (za j3))) :: (.double (FP.i2d (za j4))) :: (.double (FP.i2d (za j2))) :: tl)) :: (ca, (.object "com/example/slotwise/slotwise/Simulation$Connection"), "[Lcom/example/slotwise/slotwise/Simulation$Connection;", ((.ref (aa j)) :: (.ref (aa j1)) :: (.ref (aa j0)) :: (.ref (aa j3)) :: (.ref (aa j4)) :: (.ref (aa j2)) :: tk)) :: as) := H17
      exact own_retV K own_d1_149 (by decide) (by decide) (⟨rfl, j, j1, j0, j3, j4, j2, List.Perm.cons j ((List.perm_middle (l₁ := [j1]) (a := j0) (l₂ := [j3, j4, j2])).trans (List.Perm.cons j0 (List.Perm.cons j1 ((List.perm_middle (l₁ := [j3, j4]) (a := j2) (l₂ := [])).trans (List.Perm.cons j2 (List.Perm.cons j3 (List.Perm.cons j4 (List.Perm.nil)))))))), by omega, by omega, by omega, by omega, by omega, hj, hj1, hj0, hj3, hj4, hj2, H17⟩)
    · rw [own_gtd] at g2
      refine own_goto K own_d1_85 ?_
      refine own_aloadN K own_d1_123 rfl rfl ?_
      refine own_getfield K own_d1_124 (host := "") (Or.inl (own_w38 hw)) Via.refl H7 (j := 0) rfl (q := 0) rfl ?_
      refine own_iload K own_d1_127 rfl ?_
      refine own_dloadN K own_d1_129 rfl ?_
      refine own_dastore K own_d1_130 H7 (i := 0) rfl (q := 2) (by decide) (own_le rfl) ?_
      intro h18 H19
      replace H19 : own_H Z h18 (own_DP a (.ref ta) (.ref ca) (.int (5 : Int32)) :: os) ((ta, .double, "[D", ((.double (FP.i2d (za j0))) :: (.double (FP.i2d (za j1))) :: (.double (FP.i2d (za j))) :: (.double (FP.i2d (za j3))) :: (.double (FP.i2d (za j4))) :: (.double (FP.i2d (za j2))) :: tl)) :: (ca, (.object "com/example/slotwise/slotwise/Simulation$Connection"), "[Lcom/example/slotwise/slotwise/Simulation$Connection;", ((.ref (aa j0)) :: (.ref (aa j1)) :: (.ref (aa j2)) :: (.ref (aa j3)) :: (.ref (aa j4)) :: (.ref (aa j2)) :: tk)) :: as) := H19
      refine own_aloadN K own_d1_131 rfl rfl ?_
      refine own_getfield K own_d1_132 (host := "") (Or.inl (own_w41 hw)) Via.refl H19 (j := 0) rfl (q := 1) rfl ?_
      refine own_iload K own_d1_135 rfl ?_
      refine own_aloadN K own_d1_137 rfl rfl ?_
      refine own_aastoreR K own_d1_138 H19 (i := 1) rfl (by decide) (Ins.self (own_atC H19 ho hj)) (q := 2) (by decide) (own_le rfl) ?_
      intro h20 H21
      replace H21 : own_H Z h20 (own_DP a (.ref ta) (.ref ca) (.int (5 : Int32)) :: os) ((ta, .double, "[D", ((.double (FP.i2d (za j0))) :: (.double (FP.i2d (za j1))) :: (.double (FP.i2d (za j))) :: (.double (FP.i2d (za j3))) :: (.double (FP.i2d (za j4))) :: (.double (FP.i2d (za j2))) :: tl)) :: (ca, (.object "com/example/slotwise/slotwise/Simulation$Connection"), "[Lcom/example/slotwise/slotwise/Simulation$Connection;", ((.ref (aa j0)) :: (.ref (aa j1)) :: (.ref (aa j)) :: (.ref (aa j3)) :: (.ref (aa j4)) :: (.ref (aa j2)) :: tk)) :: as) := H21
      refine own_aloadN K own_d1_139 rfl rfl ?_
      refine own_dup K own_d1_140 rfl ?_
      refine own_getfield K own_d1_141 (host := "") (Or.inl (own_w48 hw)) Via.refl H21 (j := 0) rfl (q := 2) rfl ?_
      refine own_iconst K own_d1_144 (v := (1 : Int32)) rfl ?_
      refine own_iadd K own_d1_145 ?_
      refine own_topI (x' := (6 : Int32)) (by decide) ?_
      refine own_putfield K own_d1_146 (host := "") (Or.inl (own_w48 hw)) Via.refl H21 (j := 0) rfl (q := 2) rfl (Or.inl (own_w49 hw)) (own_w31 hw) (ty := .int) (by decide +kernel) (rfl) rfl ?_
      intro h22 H23
      replace H23 : own_H Z h22 (own_DP a (.ref ta) (.ref ca) (.int (6 : Int32)) :: os) ((ta, .double, "[D", ((.double (FP.i2d (za j0))) :: (.double (FP.i2d (za j1))) :: (.double (FP.i2d (za j))) :: (.double (FP.i2d (za j3))) :: (.double (FP.i2d (za j4))) :: (.double (FP.i2d (za j2))) :: tl)) :: (ca, (.object "com/example/slotwise/slotwise/Simulation$Connection"), "[Lcom/example/slotwise/slotwise/Simulation$Connection;", ((.ref (aa j0)) :: (.ref (aa j1)) :: (.ref (aa j)) :: (.ref (aa j3)) :: (.ref (aa j4)) :: (.ref (aa j2)) :: tk)) :: as) := H23
      exact own_retV K own_d1_149 (by decide) (by decide) (⟨rfl, j0, j1, j, j3, j4, j2, (List.perm_middle (l₁ := [j0, j1]) (a := j) (l₂ := [j3, j4, j2])).trans (List.Perm.cons j (List.Perm.cons j0 (List.Perm.cons j1 ((List.perm_middle (l₁ := [j3, j4]) (a := j2) (l₂ := [])).trans (List.Perm.cons j2 (List.Perm.cons j3 (List.Perm.cons j4 (List.Perm.nil)))))))), by omega, by omega, by omega, by omega, by omega, hj0, hj1, hj, hj3, hj4, hj2, H23⟩)
  · rw [own_gtd] at g5
    refine own_goto K own_d1_85 ?_
    refine own_aloadN K own_d1_123 rfl rfl ?_
    refine own_getfield K own_d1_124 (host := "") (Or.inl (own_w38 hw)) Via.refl H (j := 0) rfl (q := 0) rfl ?_
    refine own_iload K own_d1_127 rfl ?_
    refine own_dloadN K own_d1_129 rfl ?_
    refine own_dastore K own_d1_130 H (i := 0) rfl (q := 5) (by decide) (own_le rfl) ?_
    intro h24 H25
    replace H25 : own_H Z h24 (own_DP a (.ref ta) (.ref ca) (.int (5 : Int32)) :: os) ((ta, .double, "[D", ((.double (FP.i2d (za j0))) :: (.double (FP.i2d (za j1))) :: (.double (FP.i2d (za j2))) :: (.double (FP.i2d (za j3))) :: (.double (FP.i2d (za j4))) :: (.double (FP.i2d (za j))) :: tl)) :: (ca, (.object "com/example/slotwise/slotwise/Simulation$Connection"), "[Lcom/example/slotwise/slotwise/Simulation$Connection;", ((.ref (aa j0)) :: (.ref (aa j1)) :: (.ref (aa j2)) :: (.ref (aa j3)) :: (.ref (aa j4)) :: y5 :: tk)) :: as) := H25
    refine own_aloadN K own_d1_131 rfl rfl ?_
    refine own_getfield K own_d1_132 (host := "") (Or.inl (own_w41 hw)) Via.refl H25 (j := 0) rfl (q := 1) rfl ?_
    refine own_iload K own_d1_135 rfl ?_
    refine own_aloadN K own_d1_137 rfl rfl ?_
    refine own_aastoreR K own_d1_138 H25 (i := 1) rfl (by decide) (Ins.self (own_atC H25 ho hj)) (q := 5) (by decide) (own_le rfl) ?_
    intro h26 H27
    replace H27 : own_H Z h26 (own_DP a (.ref ta) (.ref ca) (.int (5 : Int32)) :: os) ((ta, .double, "[D", ((.double (FP.i2d (za j0))) :: (.double (FP.i2d (za j1))) :: (.double (FP.i2d (za j2))) :: (.double (FP.i2d (za j3))) :: (.double (FP.i2d (za j4))) :: (.double (FP.i2d (za j))) :: tl)) :: (ca, (.object "com/example/slotwise/slotwise/Simulation$Connection"), "[Lcom/example/slotwise/slotwise/Simulation$Connection;", ((.ref (aa j0)) :: (.ref (aa j1)) :: (.ref (aa j2)) :: (.ref (aa j3)) :: (.ref (aa j4)) :: (.ref (aa j)) :: tk)) :: as) := H27
    refine own_aloadN K own_d1_139 rfl rfl ?_
    refine own_dup K own_d1_140 rfl ?_
    refine own_getfield K own_d1_141 (host := "") (Or.inl (own_w48 hw)) Via.refl H27 (j := 0) rfl (q := 2) rfl ?_
    refine own_iconst K own_d1_144 (v := (1 : Int32)) rfl ?_
    refine own_iadd K own_d1_145 ?_
    refine own_topI (x' := (6 : Int32)) (by decide) ?_
    refine own_putfield K own_d1_146 (host := "") (Or.inl (own_w48 hw)) Via.refl H27 (j := 0) rfl (q := 2) rfl (Or.inl (own_w49 hw)) (own_w31 hw) (ty := .int) (by decide +kernel) (rfl) rfl ?_
    intro h28 H29
    replace H29 : own_H Z h28 (own_DP a (.ref ta) (.ref ca) (.int (6 : Int32)) :: os) ((ta, .double, "[D", ((.double (FP.i2d (za j0))) :: (.double (FP.i2d (za j1))) :: (.double (FP.i2d (za j2))) :: (.double (FP.i2d (za j3))) :: (.double (FP.i2d (za j4))) :: (.double (FP.i2d (za j))) :: tl)) :: (ca, (.object "com/example/slotwise/slotwise/Simulation$Connection"), "[Lcom/example/slotwise/slotwise/Simulation$Connection;", ((.ref (aa j0)) :: (.ref (aa j1)) :: (.ref (aa j2)) :: (.ref (aa j3)) :: (.ref (aa j4)) :: (.ref (aa j)) :: tk)) :: as) := H29
    exact own_retV K own_d1_149 (by decide) (by decide) (⟨rfl, j0, j1, j2, j3, j4, j, (List.perm_middle (l₁ := [j0, j1, j2, j3, j4]) (a := j) (l₂ := [])).trans (List.Perm.cons j (List.Perm.cons j0 (List.Perm.cons j1 (List.Perm.cons j2 (List.Perm.cons j3 (List.Perm.cons j4 (List.Perm.nil))))))), by omega, by omega, by omega, by omega, by omega, hj0, hj1, hj2, hj3, hj4, hj, H29⟩)
set_option maxRecDepth 65536 in
set_option maxHeartbeats 40000000 in
theorem own_poll6_ef (m : MethodId) (x0 : Addr) : entryFrame m #[(.ref x0)] 8 = mkF m 0 #[.val (.ref x0), .unset, .unset, .unset, .unset, .unset, .unset, .unset] [] := by first | (simp [entryFrame, mkF, argsToLocals, Value.category]; done) | rfl
set_option maxRecDepth 65536 in
set_option maxHeartbeats 40000000 in
theorem own_poll6 {l : Launch} {Z : State} {a0 : Array Value} (hw : own_Z Z a0) {h : Heap} {os : List own_O} {as : List own_A} {aa : Nat → Addr} {za : Nat → Int32} {a ta ca : Addr} {tl tk : List Value} {j0 j1 j2 j3 j4 j5 : Nat} (H : own_H Z h (own_DP a (.ref ta) (.ref ca) (.int (6 : Int32)) :: os) ((ta, .double, "[D", ((.double (FP.i2d (za j0))) :: (.double (FP.i2d (za j1))) :: (.double (FP.i2d (za j2))) :: (.double (FP.i2d (za j3))) :: (.double (FP.i2d (za j4))) :: (.double (FP.i2d (za j5))) :: tl)) :: (ca, (.object "com/example/slotwise/slotwise/Simulation$Connection"), "[Lcom/example/slotwise/slotwise/Simulation$Connection;", ((.ref (aa j0)) :: (.ref (aa j1)) :: (.ref (aa j2)) :: (.ref (aa j3)) :: (.ref (aa j4)) :: (.ref (aa j5)) :: tk)) :: as)) (ho : ∀ j, j < 6 → ∃ i : Nat, os[i]? = some (own_c aa za j)) (hj0 : j0 < 6) (hj1 : j1 < 6) (hj2 : j2 < 6) (hj3 : j3 < 6) (hj4 : j4 < 6) (hj5 : j5 < 6) (p0 : (za j0).toInt ≤ (za j1).toInt) (p1 : (za j0).toInt ≤ (za j2).toInt) (p2 : (za j1).toInt ≤ (za j3).toInt) (p3 : (za j1).toInt ≤ (za j4).toInt) (p4 : (za j2).toInt ≤ (za j5).toInt) : own_Met false l Z (⟨"com/example/slotwise/slotwise/Departures", "poll", "()Lcom/example/slotwise/slotwise/Simulation$Connection;"⟩ : MethodName) prog_10_method_5_code 8 (some (.object "com/example/slotwise/slotwise/Simulation$Connection")) [] ({ frames := 0, cells := 0, slots := 0, locals := 0 } : Room) #[(.ref a)] h (fun v h' => v = some (.ref (aa j0)) ∧ ∃ k0 k1 k2 k3 k4, List.Perm [k0, k1, k2, k3, k4] [j1, j2, j3, j4, j5] ∧ (za k0).toInt ≤ (za k1).toInt ∧ (za k0).toInt ≤ (za k2).toInt ∧ (za k1).toInt ≤ (za k3).toInt ∧ (za k1).toInt ≤ (za k4).toInt ∧ (za j0).toInt ≤ (za k0).toInt ∧ k0 < 6 ∧ k1 < 6 ∧ k2 < 6 ∧ k3 < 6 ∧ k4 < 6 ∧ own_H Z h' (own_DP a (.ref ta) (.ref ca) (.int (5 : Int32)) :: os) ((ta, .double, "[D", ((.double (FP.i2d (za k0))) :: (.double (FP.i2d (za k1))) :: (.double (FP.i2d (za k2))) :: (.double (FP.i2d (za k3))) :: (.double (FP.i2d (za k4))) :: (.double (FP.i2d (za j5))) :: tl)) :: (ca, (.object "com/example/slotwise/slotwise/Simulation$Connection"), "[Lcom/example/slotwise/slotwise/Simulation$Connection;", ((.ref (aa k0)) :: (.ref (aa k1)) :: (.ref (aa k2)) :: (.ref (aa k3)) :: (.ref (aa k4)) :: .null :: tk)) :: as)) := by
  refine own_met (by first | exact plainFor_of_name (by decide +kernel) | decide +kernel) ?_
  intro p e s m below meth c K
  refine own_cast (own_poll6_ef m _) ?_
  refine own_aloadN K own_d2_0 rfl rfl ?_
  refine own_getfield K own_d2_1 (host := "") (Or.inl (own_w41 hw)) Via.refl H (j := 0) rfl (q := 1) rfl ?_
  refine own_iconst K own_d2_4 (v := (0 : Int32)) rfl ?_
  refine own_aaload K own_d2_5 H (i := 1) rfl rfl (q := 0) (by decide) (rfl) ?_
  refine own_astoreN K own_d2_6 rfl (Ls' := #[.val (.ref a), .val (.ref (aa j0)), .unset, .unset, .unset, .unset, .unset, .unset]) rfl ?_
  refine own_aloadN K own_d2_7 rfl rfl ?_
  refine own_dup K own_d2_8 rfl ?_
  refine own_getfield K own_d2_9 (host := "") (Or.inl (own_w48 hw)) Via.refl H (j := 0) rfl (q := 2) rfl ?_
  refine own_iconst K own_d2_12 (v := (1 : Int32)) rfl ?_
  refine own_isub K own_d2_13 ?_
  refine own_topI (x' := (5 : Int32)) (by decide) ?_
  refine own_putfield K own_d2_14 (host := "") (Or.inl (own_w48 hw)) Via.refl H (j := 0) rfl (q := 2) rfl (Or.inl (own_w49 hw)) (own_w31 hw) (ty := .int) (by decide +kernel) (rfl) rfl ?_
  intro h1 H2
  replace H2 : own_H Z h1 (own_DP a (.ref ta) (.ref ca) (.int (5 : Int32)) :: os) ((ta, .double, "[D", ((.double (FP.i2d (za j0))) :: (.double (FP.i2d (za j1))) :: (.double (FP.i2d (za j2))) :: (.double (FP.i2d (za j3))) :: (.double (FP.i2d (za j4))) :: (.double (FP.i2d (za j5))) :: tl)) :: (ca, (.object "com/example/slotwise/slotwise/Simulation$Connection"), "[Lcom/example/slotwise/slotwise/Simulation$Connection;", ((.ref (aa j0)) :: (.ref (aa j1)) :: (.ref (aa j2)) :: (.ref (aa j3)) :: (.ref (aa j4)) :: (.ref (aa j5)) :: tk)) :: as) := H2
  refine own_aloadN K own_d2_17 rfl rfl ?_
  refine own_getfield K own_d2_18 (host := "") (Or.inl (own_w38 hw)) Via.refl H2 (j := 0) rfl (q := 0) rfl ?_
  refine own_aloadN K own_d2_21 rfl rfl ?_
  refine own_getfield K own_d2_22 (host := "") (Or.inl (own_w48 hw)) Via.refl H2 (j := 0) rfl (q := 2) rfl ?_
  refine own_daload K own_d2_25 H2 (i := 0) rfl (q := 5) (by decide) (rfl) ?_
  refine own_dstoreN K own_d2_26 (Ls' := #[.val (.ref a), .val (.ref (aa j0)), .val (.double (FP.i2d (za j5))), .second, .unset, .unset, .unset, .unset]) rfl ?_
  refine own_aloadN K own_d2_27 rfl rfl ?_
  refine own_getfield K own_d2_28 (host := "") (Or.inl (own_w41 hw)) Via.refl H2 (j := 0) rfl (q := 1) rfl ?_
  refine own_aloadN K own_d2_31 rfl rfl ?_
  refine own_getfield K own_d2_32 (host := "") (Or.inl (own_w48 hw)) Via.refl H2 (j := 0) rfl (q := 2) rfl ?_
  refine own_aaload K own_d2_35 H2 (i := 1) rfl rfl (q := 5) (by decide) (rfl) ?_
  refine own_astore K own_d2_36 rfl (Ls' := #[.val (.ref a), .val (.ref (aa j0)), .val (.double (FP.i2d (za j5))), .second, .val (.ref (aa j5)), .unset, .unset, .unset]) rfl ?_
  refine own_aloadN K own_d2_38 rfl rfl ?_
  refine own_getfield K own_d2_39 (host := "") (Or.inl (own_w41 hw)) Via.refl H2 (j := 0) rfl (q := 1) rfl ?_
  refine own_aloadN K own_d2_42 rfl rfl ?_
  refine own_getfield K own_d2_43 (host := "") (Or.inl (own_w48 hw)) Via.refl H2 (j := 0) rfl (q := 2) rfl ?_
  refine own_aconstNull K own_d2_46 ?_
  refine own_aastoreN K own_d2_47 H2 (i := 1) rfl (q := 5) (by decide) (own_le rfl) ?_
  intro h3 H4
  replace H4 : own_H Z h3 (own_DP a (.ref ta) (.ref ca) (.int (5 : Int32)) :: os) ((ta, .double, "[D", ((.double (FP.i2d (za j0))) :: (.double (FP.i2d (za j1))) :: (.double (FP.i2d (za j2))) :: (.double (FP.i2d (za j3))) :: (.double (FP.i2d (za j4))) :: (.double (FP.i2d (za j5))) :: tl)) :: (ca, (.object "com/example/slotwise/slotwise/Simulation$Connection"), "[Lcom/example/slotwise/slotwise/Simulation$Connection;", ((.ref (aa j0)) :: (.ref (aa j1)) :: (.ref (aa j2)) :: (.ref (aa j3)) :: (.ref (aa j4)) :: .null :: tk)) :: as) := H4
  refine own_aloadN K own_d2_48 rfl rfl ?_
  refine own_getfield K own_d2_49 (host := "") (Or.inl (own_w48 hw)) Via.refl H4 (j := 0) rfl (q := 2) rfl ?_
  refine own_ifle K own_d2_52 (fun q => absurd q (by decide)) (fun _ => ?_)
  refine own_iconst K own_d2_55 (v := (0 : Int32)) rfl ?_
  refine own_istore K own_d2_56 (Ls' := #[.val (.ref a), .val (.ref (aa j0)), .val (.double (FP.i2d (za j5))), .second, .val (.ref (aa j5)), .val (.int (0 : Int32)), .unset, .unset]) rfl ?_
  refine own_aloadN K own_d2_58 rfl rfl ?_
  refine own_getfield K own_d2_59 (host := "") (Or.inl (own_w48 hw)) Via.refl H4 (j := 0) rfl (q := 2) rfl ?_
  refine own_iconst K own_d2_62 (v := (1 : Int32)) rfl ?_
  refine own_iushr K own_d2_63 ?_
  refine own_topI (x' := (2 : Int32)) (by decide) ?_
  refine own_istore K own_d2_64 (Ls' := #[.val (.ref a), .val (.ref (aa j0)), .val (.double (FP.i2d (za j5))), .second, .val (.ref (aa j5)), .val (.int (0 : Int32)), .val (.int (2 : Int32)), .unset]) rfl ?_
  refine own_iload K own_d2_66 rfl ?_
  refine own_iload K own_d2_68 rfl ?_
  refine own_icmpge K own_d2_70 (fun q => absurd q (by decide)) (fun _ => ?_)
  refine own_iconst K own_d2_73 (v := (2 : Int32)) rfl ?_
  refine own_iload K own_d2_74 rfl ?_
  refine own_imul K own_d2_76 ?_
  refine own_topI (x' := (0 : Int32)) (by decide) ?_
  refine own_iconst K own_d2_77 (v := (1 : Int32)) rfl ?_
  refine own_iadd K own_d2_78 ?_
  refine own_topI (x' := (1 : Int32)) (by decide) ?_
  refine own_istore K own_d2_79 (Ls' := #[.val (.ref a), .val (.ref (aa j0)), .val (.double (FP.i2d (za j5))), .second, .val (.ref (aa j5)), .val (.int (0 : Int32)), .val (.int (2 : Int32)), .val (.int (1 : Int32))]) rfl ?_
  refine own_iload K own_d2_81 rfl ?_
  refine own_iconst K own_d2_83 (v := (1 : Int32)) rfl ?_
  refine own_iadd K own_d2_84 ?_
  refine own_topI (x' := (2 : Int32)) (by decide) ?_
  refine own_aloadN K own_d2_85 rfl rfl ?_
  refine own_getfield K own_d2_86 (host := "") (Or.inl (own_w48 hw)) Via.refl H4 (j := 0) rfl (q := 2) rfl ?_
  refine own_icmpge K own_d2_89 (fun q => absurd q (by decide)) (fun _ => ?_)
  refine own_aloadN K own_d2_92 rfl rfl ?_
  refine own_getfield K own_d2_93 (host := "") (Or.inl (own_w38 hw)) Via.refl H4 (j := 0) rfl (q := 0) rfl ?_
  refine own_iload K own_d2_96 rfl ?_
  refine own_iconst K own_d2_98 (v := (1 : Int32)) rfl ?_
  refine own_iadd K own_d2_99 ?_
  refine own_topI (x' := (2 : Int32)) (by decide) ?_
  refine own_daload K own_d2_100 H4 (i := 0) rfl (q := 2) (by decide) (rfl) ?_
  refine own_aloadN K own_d2_101 rfl rfl ?_
  refine own_getfield K own_d2_102 (host := "") (Or.inl (own_w38 hw)) Via.refl H4 (j := 0) rfl (q := 0) rfl ?_
  refine own_iload K own_d2_105 rfl ?_
  refine own_daload K own_d2_107 H4 (i := 0) rfl (q := 1) (by decide) (rfl) ?_
  refine own_dcmp K own_d2_108 ?_
  refine own_ifge K own_d2_109 (fun ga0 => ?_) (fun ga0 => ?_)
  · rw [own_ged] at ga0
    refine own_dloadN K own_d2_115 rfl ?_
    refine own_aloadN K own_d2_116 rfl rfl ?_
    refine own_getfield K own_d2_117 (host := "") (Or.inl (own_w38 hw)) Via.refl H4 (j := 0) rfl (q := 0) rfl ?_
    refine own_iload K own_d2_120 rfl ?_
    refine own_daload K own_d2_122 H4 (i := 0) rfl (q := 1) (by decide) (rfl) ?_
    refine own_dcmp K own_d2_123 ?_
    refine own_ifgt K own_d2_124 (fun gb0 => ?_) (fun gb0 => ?_)
    · rw [own_gtd] at gb0
      refine own_aloadN K own_d2_130 rfl rfl ?_
      refine own_getfield K own_d2_131 (host := "") (Or.inl (own_w38 hw)) Via.refl H4 (j := 0) rfl (q := 0) rfl ?_
      refine own_iload K own_d2_134 rfl ?_
      refine own_aloadN K own_d2_136 rfl rfl ?_
      refine own_getfield K own_d2_137 (host := "") (Or.inl (own_w38 hw)) Via.refl H4 (j := 0) rfl (q := 0) rfl ?_
      refine own_iload K own_d2_140 rfl ?_
      refine own_daload K own_d2_142 H4 (i := 0) rfl (q := 1) (by decide) (rfl) ?_
      refine own_dastore K own_d2_143 H4 (i := 0) rfl (q := 0) (by decide) (own_le rfl) ?_
      intro h5 H6
      replace H6 : own_H Z h5 (own_DP a (.ref ta) (.ref ca) (.int (5 : Int32)) :: os) ((ta, .double, "[D", ((.double (FP.i2d (za j1))) :: (.double (FP.i2d (za j1))) :: (.double (FP.i2d (za j2))) :: (.double (FP.i2d (za j3))) :: (.double (FP.i2d (za j4))) :: (.double (FP.i2d (za j5))) :: tl)) :: (ca, (.object "com/example/slotwise/slotwise/Simulation$Connection"), "[Lcom/example/slotwise/slotwise/Simulation$Connection;", ((.ref (aa j0)) :: (.ref (aa j1)) :: (.ref (aa j2)) :: (.ref (aa j3)) :: (.ref (aa j4)) :: .null :: tk)) :: as) := H6
      refine own_aloadN K own_d2_144 rfl rfl ?_
      refine own_getfield K own_d2_145 (host := "") (Or.inl (own_w41 hw)) Via.refl H6 (j := 0) rfl (q := 1) rfl ?_
      refine own_iload K own_d2_148 rfl ?_
      refine own_aloadN K own_d2_150 rfl rfl ?_
      refine own_getfield K own_d2_151 (host := "") (Or.inl (own_w41 hw)) Via.refl H6 (j := 0) rfl (q := 1) rfl ?_
      refine own_iload K own_d2_154 rfl ?_
      refine own_aaload K own_d2_156 H6 (i := 1) rfl rfl (q := 1) (by decide) (rfl) ?_
      refine own_aastoreR K own_d2_157 H6 (i := 1) rfl (by decide) (Ins.self (own_atC H6 ho hj1)) (q := 0) (by decide) (own_le rfl) ?_
      intro h7 H8
      replace H8 : own_H Z h7 (own_DP a (.ref ta) (.ref ca) (.int (5 : Int32)) :: os) ((ta, .double, "[D", ((.double (FP.i2d (za j1))) :: (.double (FP.i2d (za j1))) :: (.double (FP.i2d (za j2))) :: (.double (FP.i2d (za j3))) :: (.double (FP.i2d (za j4))) :: (.double (FP.i2d (za j5))) :: tl)) :: (ca, (.object "com/example/slotwise/slotwise/Simulation$Connection"), "[Lcom/example/slotwise/slotwise/Simulation$Connection;", ((.ref (aa j1)) :: (.ref (aa j1)) :: (.ref (aa j2)) :: (.ref (aa j3)) :: (.ref (aa j4)) :: .null :: tk)) :: as) := H8
      refine own_iload K own_d2_158 rfl ?_
      refine own_istore K own_d2_160 (Ls' := #[.val (.ref a), .val (.ref (aa j0)), .val (.double (FP.i2d (za j5))), .second, .val (.ref (aa j5)), .val (.int (1 : Int32)), .val (.int (2 : Int32)), .val (.int (1 : Int32))]) rfl ?_
      refine own_goto K own_d2_162 ?_
      refine own_iload K own_d2_66 rfl ?_
      refine own_iload K own_d2_68 rfl ?_
      refine own_icmpge K own_d2_70 (fun q => absurd q (by decide)) (fun _ => ?_)
      refine own_iconst K own_d2_73 (v := (2 : Int32)) rfl ?_
      refine own_iload K own_d2_74 rfl ?_
      refine own_imul K own_d2_76 ?_
      refine own_topI (x' := (2 : Int32)) (by decide) ?_
      refine own_iconst K own_d2_77 (v := (1 : Int32)) rfl ?_
      refine own_iadd K own_d2_78 ?_
      refine own_topI (x' := (3 : Int32)) (by decide) ?_
      refine own_istore K own_d2_79 (Ls' := #[.val (.ref a), .val (.ref (aa j0)), .val (.double (FP.i2d (za j5))), .second, .val (.ref (aa j5)), .val (.int (1 : Int32)), .val (.int (2 : Int32)), .val (.int (3 : Int32))]) rfl ?_
      refine own_iload K own_d2_81 rfl ?_
      refine own_iconst K own_d2_83 (v := (1 : Int32)) rfl ?_
      refine own_iadd K own_d2_84 ?_
      refine own_topI (x' := (4 : Int32)) (by decide) ?_
      refine own_aloadN K own_d2_85 rfl rfl ?_
      refine own_getfield K own_d2_86 (host := "") (Or.inl (own_w48 hw)) Via.refl H8 (j := 0) rfl (q := 2) rfl ?_
      refine own_icmpge K own_d2_89 (fun q => absurd q (by decide)) (fun _ => ?_)
      refine own_aloadN K own_d2_92 rfl rfl ?_
      refine own_getfield K own_d2_93 (host := "") (Or.inl (own_w38 hw)) Via.refl H8 (j := 0) rfl (q := 0) rfl ?_
      refine own_iload K own_d2_96 rfl ?_
      refine own_iconst K own_d2_98 (v := (1 : Int32)) rfl ?_
      refine own_iadd K own_d2_99 ?_
      refine own_topI (x' := (4 : Int32)) (by decide) ?_
      refine own_daload K own_d2_100 H8 (i := 0) rfl (q := 4) (by decide) (rfl) ?_
      refine own_aloadN K own_d2_101 rfl rfl ?_
      refine own_getfield K own_d2_102 (host := "") (Or.inl (own_w38 hw)) Via.refl H8 (j := 0) rfl (q := 0) rfl ?_
      refine own_iload K own_d2_105 rfl ?_
      refine own_daload K own_d2_107 H8 (i := 0) rfl (q := 3) (by decide) (rfl) ?_
      refine own_dcmp K own_d2_108 ?_
      refine own_ifge K own_d2_109 (fun ga1 => ?_) (fun ga1 => ?_)
      · rw [own_ged] at ga1
        refine own_dloadN K own_d2_115 rfl ?_
        refine own_aloadN K own_d2_116 rfl rfl ?_
        refine own_getfield K own_d2_117 (host := "") (Or.inl (own_w38 hw)) Via.refl H8 (j := 0) rfl (q := 0) rfl ?_
        refine own_iload K own_d2_120 rfl ?_
        refine own_daload K own_d2_122 H8 (i := 0) rfl (q := 3) (by decide) (rfl) ?_
        refine own_dcmp K own_d2_123 ?_
        refine own_ifgt K own_d2_124 (fun gb1 => ?_) (fun gb1 => ?_)
        · rw [own_gtd] at gb1
          refine own_aloadN K own_d2_130 rfl rfl ?_
          refine own_getfield K own_d2_131 (host := "") (Or.inl (own_w38 hw)) Via.refl H8 (j := 0) rfl (q := 0) rfl ?_
          refine own_iload K own_d2_134 rfl ?_
          refine own_aloadN K own_d2_136 rfl rfl ?_
          refine own_getfield K own_d2_137 (host := "") (Or.inl (own_w38 hw)) Via.refl H8 (j := 0) rfl (q := 0) rfl ?_
          refine own_iload K own_d2_140 rfl ?_
          refine own_daload K own_d2_142 H8 (i := 0) rfl (q := 3) (by decide) (rfl) ?_
          refine own_dastore K own_d2_143 H8 (i := 0) rfl (q := 1) (by decide) (own_le rfl) ?_
          intro h9 H10
          replace H10 : own_H Z h9 (own_DP a (.ref ta) (.ref ca) (.int (5 : Int32)) :: os) ((ta, .double, "[D", ((.double (FP.i2d (za j1))) :: (.double (FP.i2d (za j3))) :: (.double (FP.i2d (za j2))) :: (.double (FP.i2d (za j3))) :: (.double (FP.i2d (za j4))) :: (.double (FP.i2d (za j5))) :: tl)) :: (ca, (.object "com/example/slotwise/slotwise/Simulation$Connection"), "[Lcom/example/slotwise/slotwise/Simulation$Connection;", ((.ref (aa j1)) :: (.ref (aa j1)) :: (.ref (aa j2)) :: (.ref (aa j3)) :: (.ref (aa j4)) :: .null :: tk)) :: as) := H10
          refine own_aloadN K own_d2_144 rfl rfl ?_
          refine own_getfield K own_d2_145 (host := "") (Or.inl (own_w41 hw)) Via.refl H10 (j := 0) rfl (q := 1) rfl ?_
          refine own_iload K own_d2_148 rfl ?_
          refine own_aloadN K own_d2_150 rfl rfl ?_
          refine own_getfield K own_d2_151 (host := "") (Or.inl (own_w41 hw)) Via.refl H10 (j := 0) rfl (q := 1) rfl ?_
          refine own_iload K own_d2_154 rfl ?_
          refine own_aaload K own_d2_156 H10 (i := 1) rfl rfl (q := 3) (by decide) (rfl) ?_
          refine own_aastoreR K own_d2_157 H10 (i := 1) rfl (by decide) (Ins.self (own_atC H10 ho hj3)) (q := 1) (by decide) (own_le rfl) ?_
          intro h11 H12
          replace H12 : own_H Z h11 (own_DP a (.ref ta) (.ref ca) (.int (5 : Int32)) :: os) ((ta, .double, "[D", ((.double (FP.i2d (za j1))) :: (.double (FP.i2d (za j3))) :: (.double (FP.i2d (za j2))) :: (.double (FP.i2d (za j3))) :: (.double (FP.i2d (za j4))) :: (.double (FP.i2d (za j5))) :: tl)) :: (ca, (.object "com/example/slotwise/slotwise/Simulation$Connection"), "[Lcom/example/slotwise/slotwise/Simulation$Connection;", ((.ref (aa j1)) :: (.ref (aa j3)) :: (.ref (aa j2)) :: (.ref (aa j3)) :: (.ref (aa j4)) :: .null :: tk)) :: as) := H12
          refine own_iload K own_d2_158 rfl ?_
          refine own_istore K own_d2_160 (Ls' := #[.val (.ref a), .val (.ref (aa j0)), .val (.double (FP.i2d (za j5))), .second, .val (.ref (aa j5)), .val (.int (3 : Int32)), .val (.int (2 : Int32)), .val (.int (3 : Int32))]) rfl ?_
          refine own_goto K own_d2_162 ?_
          refine own_iload K own_d2_66 rfl ?_
          refine own_iload K own_d2_68 rfl ?_
          refine own_icmpge K own_d2_70 (fun _ => ?_) (fun q => absurd (by decide) q)
          refine own_aloadN K own_d2_165 rfl rfl ?_
          refine own_getfield K own_d2_166 (host := "") (Or.inl (own_w38 hw)) Via.refl H12 (j := 0) rfl (q := 0) rfl ?_
          refine own_iload K own_d2_169 rfl ?_
          refine own_dloadN K own_d2_171 rfl ?_
          refine own_dastore K own_d2_172 H12 (i := 0) rfl (q := 3) (by decide) (own_le rfl) ?_
          intro h13 H14
          replace H14 : own_H Z h13 (own_DP a (.ref ta) (.ref ca) (.int (5 : Int32)) :: os) ((ta, .double, "[D", ((.double (FP.i2d (za j1))) :: (.double (FP.i2d (za j3))) :: (.double (FP.i2d (za j2))) :: (.double (FP.i2d (za j5))) :: (.double (FP.i2d (za j4))) :: (.double (FP.i2d (za j5))) :: tl)) :: (ca, (.object "com/example/slotwise/slotwise/Simulation$Connection"), "[Lcom/example/slotwise/slotwise/Simulation$Connection;", ((.ref (aa j1)) :: (.ref (aa j3)) :: (.ref (aa j2)) :: (.ref (aa j3)) :: (.ref (aa j4)) :: .null :: tk)) :: as) := H14
          refine own_aloadN K own_d2_173 rfl rfl ?_
          refine own_getfield K own_d2_174 (host := "") (Or.inl (own_w41 hw)) Via.refl H14 (j := 0) rfl (q := 1) rfl ?_
          refine own_iload K own_d2_177 rfl ?_
          refine own_aload K own_d2_179 rfl rfl ?_
          refine own_aastoreR K own_d2_181 H14 (i := 1) rfl (by decide) (Ins.self (own_atC H14 ho hj5)) (q := 3) (by decide) (own_le rfl) ?_
          intro h15 H16
          replace H16 : own_H Z h15 (own_DP a (.ref ta) (.ref ca) (.int (5 : Int32)) :: os) ((ta, .double, "[D", ((.double (FP.i2d (za j1))) :: (.double (FP.i2d (za j3))) :: (.double (FP.i2d (za j2))) :: (.double (FP.i2d (za j5))) :: (.double (FP.i2d (za j4))) :: (.double (FP.i2d (za j5))) :: tl)) :: (ca, (.object "com/example/slotwise/slotwise/Simulation$Connection"), "[Lcom/example/slotwise/slotwise/Simulation$Connection;", ((.ref (aa j1)) :: (.ref (aa j3)) :: (.ref (aa j2)) :: (.ref (aa j5)) :: (.ref (aa j4)) :: .null :: tk)) :: as) := H16
          refine own_aloadN K own_d2_182 rfl rfl ?_
          exact own_retA K rfl rfl own_d2_183 (by decide) (by decide) (⟨rfl, j1, j3, j2, j5, j4, List.Perm.cons j1 ((List.perm_middle (l₁ := [j3]) (a := j2) (l₂ := [j5, j4])).trans (List.Perm.cons j2 (List.Perm.cons j3 ((List.perm_middle (l₁ := [j5]) (a := j4) (l₂ := [])).trans (List.Perm.cons j4 (List.Perm.cons j5 (List.Perm.nil))))))), by omega, by omega, by omega, by omega, by omega, hj1, hj3, hj2, hj5, hj4, H16⟩)
        · rw [own_gtd] at gb1
          refine own_goto K own_d2_127 ?_
          refine own_aloadN K own_d2_165 rfl rfl ?_
          refine own_getfield K own_d2_166 (host := "") (Or.inl (own_w38 hw)) Via.refl H8 (j := 0) rfl (q := 0) rfl ?_
          refine own_iload K own_d2_169 rfl ?_
          refine own_dloadN K own_d2_171 rfl ?_
          refine own_dastore K own_d2_172 H8 (i := 0) rfl (q := 1) (by decide) (own_le rfl) ?_
          intro h17 H18
          replace H18 : own_H Z h17 (own_DP a (.ref ta) (.ref ca) (.int (5 : Int32)) :: os) ((ta, .double, "[D", ((.double (FP.i2d (za j1))) :: (.double (FP.i2d (za j5))) :: (.double (FP.i2d (za j2))) :: (.double (FP.i2d (za j3))) :: (.double (FP.i2d (za j4))) :: (.double (FP.i2d (za j5))) :: tl)) :: (ca, (.object "com/example/slotwise/slotwise/Simulation$Connection"), "[Lcom/example/slotwise/slotwise/Simulation$Connection;", ((.ref (aa j1)) :: (.ref (aa j1)) :: (.ref (aa j2)) :: (.ref (aa j3)) :: (.ref (aa j4)) :: .null :: tk)) :: as) := H18
          refine own_aloadN K own_d2_173 rfl rfl ?_
          refine own_getfield K own_d2_174 (host := "") (Or.inl (own_w41 hw)) Via.refl H18 (j := 0) rfl (q := 1) rfl ?_
          refine own_iload K own_d2_177 rfl ?_
          refine own_aload K own_d2_179 rfl rfl ?_
          refine own_aastoreR K own_d2_181 H18 (i := 1) rfl (by decide) (Ins.self (own_atC H18 ho hj5)) (q := 1) (by decide) (own_le rfl) ?_
          intro h19 H20
          replace H20 : own_H Z h19 (own_DP a (.ref ta) (.ref ca) (.int (5 : Int32)) :: os) ((ta, .double, "[D", ((.double (FP.i2d (za j1))) :: (.double (FP.i2d (za j5))) :: (.double (FP.i2d (za j2))) :: (.double (FP.i2d (za j3))) :: (.double (FP.i2d (za j4))) :: (.double (FP.i2d (za j5))) :: tl)) :: (ca, (.object "com/example/slotwise/slotwise/Simulation$Connection"), "[Lcom/example/slotwise/slotwise/Simulation$Connection;", ((.ref (aa j1)) :: (.ref (aa j5)) :: (.ref (aa j2)) :: (.ref (aa j3)) :: (.ref (aa j4)) :: .null :: tk)) :: as) := H20
          refine own_aloadN K own_d2_182 rfl rfl ?_
          exact own_retA K rfl rfl own_d2_183 (by decide) (by decide) (⟨rfl, j1, j5, j2, j3, j4, List.Perm.cons j1 ((List.perm_middle (l₁ := [j5]) (a := j2) (l₂ := [j3, j4])).trans (List.Perm.cons j2 ((List.perm_middle (l₁ := [j5]) (a := j3) (l₂ := [j4])).trans (List.Perm.cons j3 ((List.perm_middle (l₁ := [j5]) (a := j4) (l₂ := [])).trans (List.Perm.cons j4 (List.Perm.cons j5 (List.Perm.nil)))))))), by omega, by omega, by omega, by omega, by omega, hj1, hj5, hj2, hj3, hj4, H20⟩)
      · rw [own_ged] at ga1
        refine own_iinc K own_d2_112 rfl (y := (4 : Int32)) (by decide) (Ls' := #[.val (.ref a), .val (.ref (aa j0)), .val (.double (FP.i2d (za j5))), .second, .val (.ref (aa j5)), .val (.int (1 : Int32)), .val (.int (2 : Int32)), .val (.int (4 : Int32))]) rfl ?_
        refine own_dloadN K own_d2_115 rfl ?_
        refine own_aloadN K own_d2_116 rfl rfl ?_
        refine own_getfield K own_d2_117 (host := "") (Or.inl (own_w38 hw)) Via.refl H8 (j := 0) rfl (q := 0) rfl ?_
        refine own_iload K own_d2_120 rfl ?_
        refine own_daload K own_d2_122 H8 (i := 0) rfl (q := 4) (by decide) (rfl) ?_
        refine own_dcmp K own_d2_123 ?_
        refine own_ifgt K own_d2_124 (fun gb1 => ?_) (fun gb1 => ?_)
        · rw [own_gtd] at gb1
          refine own_aloadN K own_d2_130 rfl rfl ?_
          refine own_getfield K own_d2_131 (host := "") (Or.inl (own_w38 hw)) Via.refl H8 (j := 0) rfl (q := 0) rfl ?_
          refine own_iload K own_d2_134 rfl ?_
          refine own_aloadN K own_d2_136 rfl rfl ?_
          refine own_getfield K own_d2_137 (host := "") (Or.inl (own_w38 hw)) Via.refl H8 (j := 0) rfl (q := 0) rfl ?_
          refine own_iload K own_d2_140 rfl ?_
          refine own_daload K own_d2_142 H8 (i := 0) rfl (q := 4) (by decide) (rfl) ?_
          refine own_dastore K own_d2_143 H8 (i := 0) rfl (q := 1) (by decide) (own_le rfl) ?_
          intro h21 H22
          replace H22 : own_H Z h21 (own_DP a (.ref ta) (.ref ca) (.int (5 : Int32)) :: os) ((ta, .double, "[D", ((.double (FP.i2d (za j1))) :: (.double (FP.i2d (za j4))) :: (.double (FP.i2d (za j2))) :: (.double (FP.i2d (za j3))) :: (.double (FP.i2d (za j4))) :: (.double (FP.i2d (za j5))) :: tl)) :: (ca, (.object "com/example/slotwise/slotwise/Simulation$Connection"), "[Lcom/example/slotwise/slotwise/Simulation$Connection;", ((.ref (aa j1)) :: (.ref (aa j1)) :: (.ref (aa j2)) :: (.ref (aa j3)) :: (.ref (aa j4)) :: .null :: tk)) :: as) := H22
          refine own_aloadN K own_d2_144 rfl rfl ?_
          refine own_getfield K own_d2_145 (host := "") (Or.inl (own_w41 hw)) Via.refl H22 (j := 0) rfl (q := 1) rfl ?_
          refine own_iload K own_d2_148 rfl ?_
          refine own_aloadN K own_d2_150 rfl rfl ?_
          refine own_getfield K own_d2_151 (host := "") (Or.inl (own_w41 hw)) Via.refl H22 (j := 0) rfl (q := 1) rfl ?_
          refine own_iload K own_d2_154 rfl ?_
          refine own_aaload K own_d2_156 H22 (i := 1) rfl rfl (q := 4) (by decide) (rfl) ?_
          refine own_aastoreR K own_d2_157 H22 (i := 1) rfl (by decide) (Ins.self (own_atC H22 ho hj4)) (q := 1) (by decide) (own_le rfl) ?_
          intro h23 H24
          replace H24 : own_H Z h23 (own_DP a (.ref ta) (.ref ca) (.int (5 : Int32)) :: os) ((ta, .double, "[D", ((.double (FP.i2d (za j1))) :: (.double (FP.i2d (za j4))) :: (.double (FP.i2d (za j2))) :: (.double (FP.i2d (za j3))) :: (.double (FP.i2d (za j4))) :: (.double (FP.i2d (za j5))) :: tl)) :: (ca, (.object "com/example/slotwise/slotwise/Simulation$Connection"), "[Lcom/example/slotwise/slotwise/Simulation$Connection;", ((.ref (aa j1)) :: (.ref (aa j4)) :: (.ref (aa j2)) :: (.ref (aa j3)) :: (.ref (aa j4)) :: .null :: tk)) :: as) := H24
          refine own_iload K own_d2_158 rfl ?_
          refine own_istore K own_d2_160 (Ls' := #[.val (.ref a), .val (.ref (aa j0)), .val (.double (FP.i2d (za j5))), .second, .val (.ref (aa j5)), .val (.int (4 : Int32)), .val (.int (2 : Int32)), .val (.int (4 : Int32))]) rfl ?_
          refine own_goto K own_d2_162 ?_
          refine own_iload K own_d2_66 rfl ?_
          refine own_iload K own_d2_68 rfl ?_
          refine own_icmpge K own_d2_70 (fun _ => ?_) (fun q => absurd (by decide) q)
          refine own_aloadN K own_d2_165 rfl rfl ?_
          refine own_getfield K own_d2_166 (host := "") (Or.inl (own_w38 hw)) Via.refl H24 (j := 0) rfl (q := 0) rfl ?_
          refine own_iload K own_d2_169 rfl ?_
          refine own_dloadN K own_d2_171 rfl ?_
          refine own_dastore K own_d2_172 H24 (i := 0) rfl (q := 4) (by decide) (own_le rfl) ?_
          intro h25 H26
          replace H26 : own_H Z h25 (own_DP a (.ref ta) (.ref ca) (.int (5 : Int32)) :: os) ((ta, .double, "[D", ((.double (FP.i2d (za j1))) :: (.double (FP.i2d (za j4))) :: (.double (FP.i2d (za j2))) :: (.double (FP.i2d (za j3))) :: (.double (FP.i2d (za j5))) :: (.double (FP.i2d (za j5))) :: tl)) :: (ca, (.object "com/example/slotwise/slotwise/Simulation$Connection"), "[Lcom/example/slotwise/slotwise/Simulation$Connection;", ((.ref (aa j1)) :: (.ref (aa j4)) :: (.ref (aa j2)) :: (.ref (aa j3)) :: (.ref (aa j4)) :: .null :: tk)) :: as) := H26
          refine own_aloadN K own_d2_173 rfl rfl ?_
          refine own_getfield K own_d2_174 (host := "") (Or.inl (own_w41 hw)) Via.refl H26 (j := 0) rfl (q := 1) rfl ?_
          refine own_iload K own_d2_177 rfl ?_
          refine own_aload K own_d2_179 rfl rfl ?_
          refine own_aastoreR K own_d2_181 H26 (i := 1) rfl (by decide) (Ins.self (own_atC H26 ho hj5)) (q := 4) (by decide) (own_le rfl) ?_
          intro h27 H28
          replace H28 : own_H Z h27 (own_DP a (.ref ta) (.ref ca) (.int (5 : Int32)) :: os) ((ta, .double, "[D", ((.double (FP.i2d (za j1))) :: (.double (FP.i2d (za j4))) :: (.double (FP.i2d (za j2))) :: (.double (FP.i2d (za j3))) :: (.double (FP.i2d (za j5))) :: (.double (FP.i2d (za j5))) :: tl)) :: (ca, (.object "com/example/slotwise/slotwise/Simulation$Connection"), "[Lcom/example/slotwise/slotwise/Simulation$Connection;", ((.ref (aa j1)) :: (.ref (aa j4)) :: (.ref (aa j2)) :: (.ref (aa j3)) :: (.ref (aa j5)) :: .null :: tk)) :: as) := H28
          refine own_aloadN K own_d2_182 rfl rfl ?_
          exact own_retA K rfl rfl own_d2_183 (by decide) (by decide) (⟨rfl, j1, j4, j2, j3, j5, List.Perm.cons j1 ((List.perm_middle (l₁ := [j4]) (a := j2) (l₂ := [j3, j5])).trans (List.Perm.cons j2 ((List.perm_middle (l₁ := [j4]) (a := j3) (l₂ := [j5])).trans (List.Perm.cons j3 (List.Perm.cons j4 (List.Perm.cons j5 (List.Perm.nil))))))), by omega, by omega, by omega, by omega, by omega, hj1, hj4, hj2, hj3, hj5, H28⟩)
        · rw [own_gtd] at gb1
          refine own_goto K own_d2_127 ?_
          refine own_aloadN K own_d2_165 rfl rfl ?_
          refine own_getfield K own_d2_166 (host := "") (Or.inl (own_w38 hw)) Via.refl H8 (j := 0) rfl (q := 0) rfl ?_
          refine own_iload K own_d2_169 rfl ?_
          refine own_dloadN K own_d2_171 rfl ?_
          refine own_dastore K own_d2_172 H8 (i := 0) rfl (q := 1) (by decide) (own_le rfl) ?_
          intro h29 H30
          replace H30 : own_H Z h29 (own_DP a (.ref ta) (.ref ca) (.int (5 : Int32)) :: os) ((ta, .double, "[D", ((.double (FP.i2d (za j1))) :: (.double (FP.i2d (za j5))) :: (.double (FP.i2d (za j2))) :: (.double (FP.i2d (za j3))) :: (.double (FP.i2d (za j4))) :: (.double (FP.i2d (za j5))) :: tl)) :: (ca, (.object "com/example/slotwise/slotwise/Simulation$Connection"), "[Lcom/example/slotwise/slotwise/Simulation$Connection;", ((.ref (aa j1)) :: (.ref (aa j1)) :: (.ref (aa j2)) :: (.ref (aa j3)) :: (.ref (aa j4)) :: .null :: tk)) :: as) := H30
          refine own_aloadN K own_d2_173 rfl rfl ?_
          refine own_getfield K own_d2_174 (host := "") (Or.inl (own_w41 hw)) Via.refl H30 (j := 0) rfl (q := 1) rfl ?_
          refine own_iload K own_d2_177 rfl ?_
          refine own_aload K own_d2_179 rfl rfl ?_
          refine own_aastoreR K own_d2_181 H30 (i := 1) rfl (by decide) (Ins.self (own_atC H30 ho hj5)) (q := 1) (by decide) (own_le rfl) ?_
          intro h31 H32
          replace H32 : own_H Z h31 (own_DP a (.ref ta) (.ref ca) (.int (5 : Int32)) :: os) ((ta, .double, "[D", ((.double (FP.i2d (za j1))) :: (.double (FP.i2d (za j5))) :: (.double (FP.i2d (za j2))) :: (.double (FP.i2d (za j3))) :: (.double (FP.i2d (za j4))) :: (.double (FP.i2d (za j5))) :: tl)) :: (ca, (.object "com/example/slotwise/slotwise/Simulation$Connection"), "[Lcom/example/slotwise/slotwise/Simulation$Connection;", ((.ref (aa j1)) :: (.ref (aa j5)) :: (.ref (aa j2)) :: (.ref (aa j3)) :: (.ref (aa j4)) :: .null :: tk)) :: as) := H32
          refine own_aloadN K own_d2_182 rfl rfl ?_
          exact own_retA K rfl rfl own_d2_183 (by decide) (by decide) (⟨rfl, j1, j5, j2, j3, j4, List.Perm.cons j1 ((List.perm_middle (l₁ := [j5]) (a := j2) (l₂ := [j3, j4])).trans (List.Perm.cons j2 ((List.perm_middle (l₁ := [j5]) (a := j3) (l₂ := [j4])).trans (List.Perm.cons j3 ((List.perm_middle (l₁ := [j5]) (a := j4) (l₂ := [])).trans (List.Perm.cons j4 (List.Perm.cons j5 (List.Perm.nil)))))))), by omega, by omega, by omega, by omega, by omega, hj1, hj5, hj2, hj3, hj4, H32⟩)
    · rw [own_gtd] at gb0
      refine own_goto K own_d2_127 ?_
      refine own_aloadN K own_d2_165 rfl rfl ?_
      refine own_getfield K own_d2_166 (host := "") (Or.inl (own_w38 hw)) Via.refl H4 (j := 0) rfl (q := 0) rfl ?_
      refine own_iload K own_d2_169 rfl ?_
      refine own_dloadN K own_d2_171 rfl ?_
      refine own_dastore K own_d2_172 H4 (i := 0) rfl (q := 0) (by decide) (own_le rfl) ?_
      intro h33 H34
      replace H34 : own_H Z h33 (own_DP a (.ref ta) (.ref ca) (.int (5 : Int32)) :: os) ((ta, .double, "[D", ((.double (FP.i2d (za j5))) :: (.double (FP.i2d (za j1))) :: (.double (FP.i2d (za j2))) :: (.double (FP.i2d (za j3))) :: (.double (FP.i2d (za j4))) :: (.double (FP.i2d (za j5))) :: tl)) :: (ca, (.object "com/example/slotwise/slotwise/Simulation$Connection"), "[Lcom/example/slotwise/slotwise/Simulation$Connection;", ((.ref (aa j0)) :: (.ref (aa j1)) :: (.ref (aa j2)) :: (.ref (aa j3)) :: (.ref (aa j4)) :: .null :: tk)) :: as) := H34
      refine own_aloadN K own_d2_173 rfl rfl ?_
      refine own_getfield K own_d2_174 (host := "") (Or.inl (own_w41 hw)) Via.refl H34 (j := 0) rfl (q := 1) rfl ?_
      refine own_iload K own_d2_177 rfl ?_
      refine own_aload K own_d2_179 rfl rfl ?_
      refine own_aastoreR K own_d2_181 H34 (i := 1) rfl (by decide) (Ins.self (own_atC H34 ho hj5)) (q := 0) (by decide) (own_le rfl) ?_
      intro h35 H36
      replace H36 : own_H Z h35 (own_DP a (.ref ta) (.ref ca) (.int (5 : Int32)) :: os) ((ta, .double, "[D", ((.double (FP.i2d (za j5))) :: (.double (FP.i2d (za j1))) :: (.double (FP.i2d (za j2))) :: (.double (FP.i2d (za j3))) :: (.double (FP.i2d (za j4))) :: (.double (FP.i2d (za j5))) :: tl)) :: (ca, (.object "com/example/slotwise/slotwise/Simulation$Connection"), "[Lcom/example/slotwise/slotwise/Simulation$Connection;", ((.ref (aa j5)) :: (.ref (aa j1)) :: (.ref (aa j2)) :: (.ref (aa j3)) :: (.ref (aa j4)) :: .null :: tk)) :: as) := H36
      refine own_aloadN K own_d2_182 rfl rfl ?_
      exact own_retA K rfl rfl own_d2_183 (by decide) (by decide) (⟨rfl, j5, j1, j2, j3, j4, (List.perm_middle (l₁ := [j5]) (a := j1) (l₂ := [j2, j3, j4])).trans (List.Perm.cons j1 ((List.perm_middle (l₁ := [j5]) (a := j2) (l₂ := [j3, j4])).trans (List.Perm.cons j2 ((List.perm_middle (l₁ := [j5]) (a := j3) (l₂ := [j4])).trans (List.Perm.cons j3 ((List.perm_middle (l₁ := [j5]) (a := j4) (l₂ := [])).trans (List.Perm.cons j4 (List.Perm.cons j5 (List.Perm.nil))))))))), by omega, by omega, by omega, by omega, by omega, hj5, hj1, hj2, hj3, hj4, H36⟩)
  · rw [own_ged] at ga0
    refine own_iinc K own_d2_112 rfl (y := (2 : Int32)) (by decide) (Ls' := #[.val (.ref a), .val (.ref (aa j0)), .val (.double (FP.i2d (za j5))), .second, .val (.ref (aa j5)), .val (.int (0 : Int32)), .val (.int (2 : Int32)), .val (.int (2 : Int32))]) rfl ?_
    refine own_dloadN K own_d2_115 rfl ?_
    refine own_aloadN K own_d2_116 rfl rfl ?_
    refine own_getfield K own_d2_117 (host := "") (Or.inl (own_w38 hw)) Via.refl H4 (j := 0) rfl (q := 0) rfl ?_
    refine own_iload K own_d2_120 rfl ?_
    refine own_daload K own_d2_122 H4 (i := 0) rfl (q := 2) (by decide) (rfl) ?_
    refine own_dcmp K own_d2_123 ?_
    refine own_ifgt K own_d2_124 (fun gb0 => ?_) (fun gb0 => ?_)
    · rw [own_gtd] at gb0
      refine own_aloadN K own_d2_130 rfl rfl ?_
      refine own_getfield K own_d2_131 (host := "") (Or.inl (own_w38 hw)) Via.refl H4 (j := 0) rfl (q := 0) rfl ?_
      refine own_iload K own_d2_134 rfl ?_
      refine own_aloadN K own_d2_136 rfl rfl ?_
      refine own_getfield K own_d2_137 (host := "") (Or.inl (own_w38 hw)) Via.refl H4 (j := 0) rfl (q := 0) rfl ?_
      refine own_iload K own_d2_140 rfl ?_
      refine own_daload K own_d2_142 H4 (i := 0) rfl (q := 2) (by decide) (rfl) ?_
      refine own_dastore K own_d2_143 H4 (i := 0) rfl (q := 0) (by decide) (own_le rfl) ?_
      intro h37 H38
      replace H38 : own_H Z h37 (own_DP a (.ref ta) (.ref ca) (.int (5 : Int32)) :: os) ((ta, .double, "[D", ((.double (FP.i2d (za j2))) :: (.double (FP.i2d (za j1))) :: (.double (FP.i2d (za j2))) :: (.double (FP.i2d (za j3))) :: (.double (FP.i2d (za j4))) :: (.double (FP.i2d (za j5))) :: tl)) :: (ca, (.object "com/example/slotwise/slotwise/Simulation$Connection"), "[Lcom/example/slotwise/slotwise/Simulation$Connection;", ((.ref (aa j0)) :: (.ref (aa j1)) :: (.ref (aa j2)) :: (.ref (aa j3)) :: (.ref (aa j4)) :: .null :: tk)) :: as) := H38
      refine own_aloadN K own_d2_144 rfl rfl ?_
      refine own_getfield K own_d2_145 (host := "") (Or.inl (own_w41 hw)) Via.refl H38 (j := 0) rfl (q := 1) rfl ?_
      refine own_iload K own_d2_148 rfl ?_
      refine own_aloadN K own_d2_150 rfl rfl ?_
      refine own_getfield K own_d2_151 (host := "") (Or.inl (own_w41 hw)) Via.refl H38 (j := 0) rfl (q := 1) rfl ?_
      refine own_iload K own_d2_154 rfl ?_
      refine own_aaload K own_d2_156 H38 (i := 1) rfl rfl (q := 2) (by decide) (rfl) ?_
      refine own_aastoreR K own_d2_157 H38 (i := 1) rfl (by decide) (Ins.self (own_atC H38 ho hj2)) (q := 0) (by decide) (own_le rfl) ?_
      intro h39 H40
      replace H40 : own_H Z h39 (own_DP a (.ref ta) (.ref ca) (.int (5 : Int32)) :: os) ((ta, .double, "[D", ((.double (FP.i2d (za j2))) :: (.double (FP.i2d (za j1))) :: (.double (FP.i2d (za j2))) :: (.double (FP.i2d (za j3))) :: (.double (FP.i2d (za j4))) :: (.double (FP.i2d (za j5))) :: tl)) :: (ca, (.object "com/example/slotwise/slotwise/Simulation$Connection"), "[Lcom/example/slotwise/slotwise/Simulation$Connection;", ((.ref (aa j2)) :: (.ref (aa j1)) :: (.ref (aa j2)) :: (.ref (aa j3)) :: (.ref (aa j4)) :: .null :: tk)) :: as) := H40
      refine own_iload K own_d2_158 rfl ?_
      refine own_istore K own_d2_160 (Ls' := #[.val (.ref a), .val (.ref (aa j0)), .val (.double (FP.i2d (za j5))), .second, .val (.ref (aa j5)), .val (.int (2 : Int32)), .val (.int (2 : Int32)), .val (.int (2 : Int32))]) rfl ?_
      refine own_goto K own_d2_162 ?_
      refine own_iload K own_d2_66 rfl ?_
      refine own_iload K own_d2_68 rfl ?_
      refine own_icmpge K own_d2_70 (fun _ => ?_) (fun q => absurd (by decide) q)
      refine own_aloadN K own_d2_165 rfl rfl ?_
      refine own_getfield K own_d2_166 (host := "") (Or.inl (own_w38 hw)) Via.refl H40 (j := 0) rfl (q := 0) rfl ?_
      refine own_iload K own_d2_169 rfl ?_
      refine own_dloadN K own_d2_171 rfl ?_
      refine own_dastore K own_d2_172 H40 (i := 0) rfl (q := 2) (by decide) (own_le rfl) ?_
      intro h41 H42
      replace H42 : own_H Z h41 (own_DP a (.ref ta) (.ref ca) (.int (5 : Int32)) :: os) ((ta, .double, "[D", ((.double (FP.i2d (za j2))) :: (.double (FP.i2d (za j1))) :: (.double (FP.i2d (za j5))) :: (.double (FP.i2d (za j3))) :: (.double (FP.i2d (za j4))) :: (.double (FP.i2d (za j5))) :: tl)) :: (ca, (.object "com/example/slotwise/slotwise/Simulation$Connection"), "[Lcom/example/slotwise/slotwise/Simulation$Connection;", ((.ref (aa j2)) :: (.ref (aa j1)) :: (.ref (aa j2)) :: (.ref (aa j3)) :: (.ref (aa j4)) :: .null :: tk)) :: as) := H42
      refine own_aloadN K own_d2_173 rfl rfl ?_
      refine own_getfield K own_d2_174 (host := "") (Or.inl (own_w41 hw)) Via.refl H42 (j := 0) rfl (q := 1) rfl ?_
      refine own_iload K own_d2_177 rfl ?_
      refine own_aload K own_d2_179 rfl rfl ?_
      refine own_aastoreR K own_d2_181 H42 (i := 1) rfl (by decide) (Ins.self (own_atC H42 ho hj5)) (q := 2) (by decide) (own_le rfl) ?_
      intro h43 H44
      replace H44 : own_H Z h43 (own_DP a (.ref ta) (.ref ca) (.int (5 : Int32)) :: os) ((ta, .double, "[D", ((.double (FP.i2d (za j2))) :: (.double (FP.i2d (za j1))) :: (.double (FP.i2d (za j5))) :: (.double (FP.i2d (za j3))) :: (.double (FP.i2d (za j4))) :: (.double (FP.i2d (za j5))) :: tl)) :: (ca, (.object "com/example/slotwise/slotwise/Simulation$Connection"), "[Lcom/example/slotwise/slotwise/Simulation$Connection;", ((.ref (aa j2)) :: (.ref (aa j1)) :: (.ref (aa j5)) :: (.ref (aa j3)) :: (.ref (aa j4)) :: .null :: tk)) :: as) := H44
      refine own_aloadN K own_d2_182 rfl rfl ?_
      exact own_retA K rfl rfl own_d2_183 (by decide) (by decide) (⟨rfl, j2, j1, j5, j3, j4, (List.perm_middle (l₁ := [j2]) (a := j1) (l₂ := [j5, j3, j4])).trans (List.Perm.cons j1 (List.Perm.cons j2 ((List.perm_middle (l₁ := [j5]) (a := j3) (l₂ := [j4])).trans (List.Perm.cons j3 ((List.perm_middle (l₁ := [j5]) (a := j4) (l₂ := [])).trans (List.Perm.cons j4 (List.Perm.cons j5 (List.Perm.nil)))))))), by omega, by omega, by omega, by omega, by omega, hj2, hj1, hj5, hj3, hj4, H44⟩)
    · rw [own_gtd] at gb0
      refine own_goto K own_d2_127 ?_
      refine own_aloadN K own_d2_165 rfl rfl ?_
      refine own_getfield K own_d2_166 (host := "") (Or.inl (own_w38 hw)) Via.refl H4 (j := 0) rfl (q := 0) rfl ?_
      refine own_iload K own_d2_169 rfl ?_
      refine own_dloadN K own_d2_171 rfl ?_
      refine own_dastore K own_d2_172 H4 (i := 0) rfl (q := 0) (by decide) (own_le rfl) ?_
      intro h45 H46
      replace H46 : own_H Z h45 (own_DP a (.ref ta) (.ref ca) (.int (5 : Int32)) :: os) ((ta, .double, "[D", ((.double (FP.i2d (za j5))) :: (.double (FP.i2d (za j1))) :: (.double (FP.i2d (za j2))) :: (.double (FP.i2d (za j3))) :: (.double (FP.i2d (za j4))) :: (.double (FP.i2d (za j5))) :: tl)) :: (ca, (.object "com/example/slotwise/slotwise/Simulation$Connection"), "[Lcom/example/slotwise/slotwise/Simulation$Connection;", ((.ref (aa j0)) :: (.ref (aa j1)) :: (.ref (aa j2)) :: (.ref (aa j3)) :: (.ref (aa j4)) :: .null :: tk)) :: as) := H46
      refine own_aloadN K own_d2_173 rfl rfl ?_
      refine own_getfield K own_d2_174 (host := "") (Or.inl (own_w41 hw)) Via.refl H46 (j := 0) rfl (q := 1) rfl ?_
      refine own_iload K own_d2_177 rfl ?_
      refine own_aload K own_d2_179 rfl rfl ?_
      refine own_aastoreR K own_d2_181 H46 (i := 1) rfl (by decide) (Ins.self (own_atC H46 ho hj5)) (q := 0) (by decide) (own_le rfl) ?_
      intro h47 H48
      replace H48 : own_H Z h47 (own_DP a (.ref ta) (.ref ca) (.int (5 : Int32)) :: os) ((ta, .double, "[D", ((.double (FP.i2d (za j5))) :: (.double (FP.i2d (za j1))) :: (.double (FP.i2d (za j2))) :: (.double (FP.i2d (za j3))) :: (.double (FP.i2d (za j4))) :: (.double (FP.i2d (za j5))) :: tl)) :: (ca, (.object "com/example/slotwise/slotwise/Simulation$Connection"), "[Lcom/example/slotwise/slotwise/Simulation$Connection;", ((.ref (aa j5)) :: (.ref (aa j1)) :: (.ref (aa j2)) :: (.ref (aa j3)) :: (.ref (aa j4)) :: .null :: tk)) :: as) := H48
      refine own_aloadN K own_d2_182 rfl rfl ?_
      exact own_retA K rfl rfl own_d2_183 (by decide) (by decide) (⟨rfl, j5, j1, j2, j3, j4, (List.perm_middle (l₁ := [j5]) (a := j1) (l₂ := [j2, j3, j4])).trans (List.Perm.cons j1 ((List.perm_middle (l₁ := [j5]) (a := j2) (l₂ := [j3, j4])).trans (List.Perm.cons j2 ((List.perm_middle (l₁ := [j5]) (a := j3) (l₂ := [j4])).trans (List.Perm.cons j3 ((List.perm_middle (l₁ := [j5]) (a := j4) (l₂ := [])).trans (List.Perm.cons j4 (List.Perm.cons j5 (List.Perm.nil))))))))), by omega, by omega, by omega, by omega, by omega, hj5, hj1, hj2, hj3, hj4, H48⟩)
set_option maxRecDepth 65536 in
set_option maxHeartbeats 40000000 in
theorem own_poll5_ef (m : MethodId) (x0 : Addr) : entryFrame m #[(.ref x0)] 8 = mkF m 0 #[.val (.ref x0), .unset, .unset, .unset, .unset, .unset, .unset, .unset] [] := by first | (simp [entryFrame, mkF, argsToLocals, Value.category]; done) | rfl
set_option maxRecDepth 65536 in
set_option maxHeartbeats 40000000 in
theorem own_poll5 {l : Launch} {Z : State} {a0 : Array Value} (hw : own_Z Z a0) {h : Heap} {os : List own_O} {as : List own_A} {aa : Nat → Addr} {za : Nat → Int32} {a ta ca : Addr} {tl tk : List Value} {j0 j1 j2 j3 j4 : Nat} {x5 y5 : Value} (H : own_H Z h (own_DP a (.ref ta) (.ref ca) (.int (5 : Int32)) :: os) ((ta, .double, "[D", ((.double (FP.i2d (za j0))) :: (.double (FP.i2d (za j1))) :: (.double (FP.i2d (za j2))) :: (.double (FP.i2d (za j3))) :: (.double (FP.i2d (za j4))) :: x5 :: tl)) :: (ca, (.object "com/example/slotwise/slotwise/Simulation$Connection"), "[Lcom/example/slotwise/slotwise/Simulation$Connection;", ((.ref (aa j0)) :: (.ref (aa j1)) :: (.ref (aa j2)) :: (.ref (aa j3)) :: (.ref (aa j4)) :: y5 :: tk)) :: as)) (ho : ∀ j, j < 6 → ∃ i : Nat, os[i]? = some (own_c aa za j)) (hj0 : j0 < 6) (hj1 : j1 < 6) (hj2 : j2 < 6) (hj3 : j3 < 6) (hj4 : j4 < 6) (p0 : (za j0).toInt ≤ (za j1).toInt) (p1 : (za j0).toInt ≤ (za j2).toInt) (p2 : (za j1).toInt ≤ (za j3).toInt) (p3 : (za j1).toInt ≤ (za j4).toInt) : own_Met false l Z (⟨"com/example/slotwise/slotwise/Departures", "poll", "()Lcom/example/slotwise/slotwise/Simulation$Connection;"⟩ : MethodName) prog_10_method_5_code 8 (some (.object "com/example/slotwise/slotwise/Simulation$Connection")) [] ({ frames := 0, cells := 0, slots := 0, locals := 0 } : Room) #[(.ref a)] h (fun v h' => v = some (.ref (aa j0)) ∧ ∃ k0 k1 k2 k3, List.Perm [k0, k1, k2, k3] [j1, j2, j3, j4] ∧ (za k0).toInt ≤ (za k1).toInt ∧ (za k0).toInt ≤ (za k2).toInt ∧ (za k1).toInt ≤ (za k3).toInt ∧ (za j0).toInt ≤ (za k0).toInt ∧ k0 < 6 ∧ k1 < 6 ∧ k2 < 6 ∧ k3 < 6 ∧ own_H Z h' (own_DP a (.ref ta) (.ref ca) (.int (4 : Int32)) :: os) ((ta, .double, "[D", ((.double (FP.i2d (za k0))) :: (.double (FP.i2d (za k1))) :: (.double (FP.i2d (za k2))) :: (.double (FP.i2d (za k3))) :: (.double (FP.i2d (za j4))) :: x5 :: tl)) :: (ca, (.object "com/example/slotwise/slotwise/Simulation$Connection"), "[Lcom/example/slotwise/slotwise/Simulation$Connection;", ((.ref (aa k0)) :: (.ref (aa k1)) :: (.ref (aa k2)) :: (.ref (aa k3)) :: .null :: y5 :: tk)) :: as)) := by
  refine own_met (by first | exact plainFor_of_name (by decide +kernel) | decide +kernel) ?_
  intro p e s m below meth c K
  refine own_cast (own_poll5_ef m _) ?_
  refine own_aloadN K own_d2_0 rfl rfl ?_
  refine own_getfield K own_d2_1 (host := "") (Or.inl (own_w41 hw)) Via.refl H (j := 0) rfl (q := 1) rfl ?_
  refine own_iconst K own_d2_4 (v := (0 : Int32)) rfl ?_
  refine own_aaload K own_d2_5 H (i := 1) rfl rfl (q := 0) (by decide) (rfl) ?_
  refine own_astoreN K own_d2_6 rfl (Ls' := #[.val (.ref a), .val (.ref (aa j0)), .unset, .unset, .unset, .unset, .unset, .unset]) rfl ?_
  refine own_aloadN K own_d2_7 rfl rfl ?_
  refine own_dup K own_d2_8 rfl ?_
  refine own_getfield K own_d2_9 (host := "") (Or.inl (own_w48 hw)) Via.refl H (j := 0) rfl (q := 2) rfl ?_
  refine own_iconst K own_d2_12 (v := (1 : Int32)) rfl ?_
  refine own_isub K own_d2_13 ?_
  refine own_topI (x' := (4 : Int32)) (by decide) ?_
  refine own_putfield K own_d2_14 (host := "") (Or.inl (own_w48 hw)) Via.refl H (j := 0) rfl (q := 2) rfl (Or.inl (own_w49 hw)) (own_w31 hw) (ty := .int) (by decide +kernel) (rfl) rfl ?_
  intro h1 H2
  replace H2 : own_H Z h1 (own_DP a (.ref ta) (.ref ca) (.int (4 : Int32)) :: os) ((ta, .double, "[D", ((.double (FP.i2d (za j0))) :: (.double (FP.i2d (za j1))) :: (.double (FP.i2d (za j2))) :: (.double (FP.i2d (za j3))) :: (.double (FP.i2d (za j4))) :: x5 :: tl)) :: (ca, (.object "com/example/slotwise/slotwise/Simulation$Connection"), "[Lcom/example/slotwise/slotwise/Simulation$Connection;", ((.ref (aa j0)) :: (.ref (aa j1)) :: (.ref (aa j2)) :: (.ref (aa j3)) :: (.ref (aa j4)) :: y5 :: tk)) :: as) := H2
  refine own_aloadN K own_d2_17 rfl rfl ?_
  refine own_getfield K own_d2_18 (host := "") (Or.inl (own_w38 hw)) Via.refl H2 (j := 0) rfl (q := 0) rfl ?_
  refine own_aloadN K own_d2_21 rfl rfl ?_
  refine own_getfield K own_d2_22 (host := "") (Or.inl (own_w48 hw)) Via.refl H2 (j := 0) rfl (q := 2) rfl ?_
  refine own_daload K own_d2_25 H2 (i := 0) rfl (q := 4) (by decide) (rfl) ?_
  refine own_dstoreN K own_d2_26 (Ls' := #[.val (.ref a), .val (.ref (aa j0)), .val (.double (FP.i2d (za j4))), .second, .unset, .unset, .unset, .unset]) rfl ?_
  refine own_aloadN K own_d2_27 rfl rfl ?_
  refine own_getfield K own_d2_28 (host := "") (Or.inl (own_w41 hw)) Via.refl H2 (j := 0) rfl (q := 1) rfl ?_
  refine own_aloadN K own_d2_31 rfl rfl ?_
  refine own_getfield K own_d2_32 (host := "") (Or.inl (own_w48 hw)) Via.refl H2 (j := 0) rfl (q := 2) rfl ?_
  refine own_aaload K own_d2_35 H2 (i := 1) rfl rfl (q := 4) (by decide) (rfl) ?_
  refine own_astore K own_d2_36 rfl (Ls' := #[.val (.ref a), .val (.ref (aa j0)), .val (.double (FP.i2d (za j4))), .second, .val (.ref (aa j4)), .unset, .unset, .unset]) rfl ?_
  refine own_aloadN K own_d2_38 rfl rfl ?_
  refine own_getfield K own_d2_39 (host := "") (Or.inl (own_w41 hw)) Via.refl H2 (j := 0) rfl (q := 1) rfl ?_
  refine own_aloadN K own_d2_42 rfl rfl ?_
  refine own_getfield K own_d2_43 (host := "") (Or.inl (own_w48 hw)) Via.refl H2 (j := 0) rfl (q := 2) rfl ?_
  refine own_aconstNull K own_d2_46 ?_
  refine own_aastoreN K own_d2_47 H2 (i := 1) rfl (q := 4) (by decide) (own_le rfl) ?_
  intro h3 H4
  replace H4 : own_H Z h3 (own_DP a (.ref ta) (.ref ca) (.int (4 : Int32)) :: os) ((ta, .double, "[D", ((.double (FP.i2d (za j0))) :: (.double (FP.i2d (za j1))) :: (.double (FP.i2d (za j2))) :: (.double (FP.i2d (za j3))) :: (.double (FP.i2d (za j4))) :: x5 :: tl)) :: (ca, (.object "com/example/slotwise/slotwise/Simulation$Connection"), "[Lcom/example/slotwise/slotwise/Simulation$Connection;", ((.ref (aa j0)) :: (.ref (aa j1)) :: (.ref (aa j2)) :: (.ref (aa j3)) :: .null :: y5 :: tk)) :: as) := H4
  refine own_aloadN K own_d2_48 rfl rfl ?_
  refine own_getfield K own_d2_49 (host := "") (Or.inl (own_w48 hw)) Via.refl H4 (j := 0) rfl (q := 2) rfl ?_
  refine own_ifle K own_d2_52 (fun q => absurd q (by decide)) (fun _ => ?_)
  refine own_iconst K own_d2_55 (v := (0 : Int32)) rfl ?_
  refine own_istore K own_d2_56 (Ls' := #[.val (.ref a), .val (.ref (aa j0)), .val (.double (FP.i2d (za j4))), .second, .val (.ref (aa j4)), .val (.int (0 : Int32)), .unset, .unset]) rfl ?_
  refine own_aloadN K own_d2_58 rfl rfl ?_
  refine own_getfield K own_d2_59 (host := "") (Or.inl (own_w48 hw)) Via.refl H4 (j := 0) rfl (q := 2) rfl ?_
  refine own_iconst K own_d2_62 (v := (1 : Int32)) rfl ?_
  refine own_iushr K own_d2_63 ?_
  refine own_topI (x' := (2 : Int32)) (by decide) ?_
  refine own_istore K own_d2_64 (Ls' := #[.val (.ref a), .val (.ref (aa j0)), .val (.double (FP.i2d (za j4))), .second, .val (.ref (aa j4)), .val (.int (0 : Int32)), .val (.int (2 : Int32)), .unset]) rfl ?_
  refine own_iload K own_d2_66 rfl ?_
  refine own_iload K own_d2_68 rfl ?_
  refine own_icmpge K own_d2_70 (fun q => absurd q (by decide)) (fun _ => ?_)
  refine own_iconst K own_d2_73 (v := (2 : Int32)) rfl ?_
  refine own_iload K own_d2_74 rfl ?_
  refine own_imul K own_d2_76 ?_
  refine own_topI (x' := (0 : Int32)) (by decide) ?_
  refine own_iconst K own_d2_77 (v := (1 : Int32)) rfl ?_
  refine own_iadd K own_d2_78 ?_
  refine own_topI (x' := (1 : Int32)) (by decide) ?_
  refine own_istore K own_d2_79 (Ls' := #[.val (.ref a), .val (.ref (aa j0)), .val (.double (FP.i2d (za j4))), .second, .val (.ref (aa j4)), .val (.int (0 : Int32)), .val (.int (2 : Int32)), .val (.int (1 : Int32))]) rfl ?_
  refine own_iload K own_d2_81 rfl ?_
  refine own_iconst K own_d2_83 (v := (1 : Int32)) rfl ?_
  refine own_iadd K own_d2_84 ?_
  refine own_topI (x' := (2 : Int32)) (by decide) ?_
  refine own_aloadN K own_d2_85 rfl rfl ?_
  refine own_getfield K own_d2_86 (host := "") (Or.inl (own_w48 hw)) Via.refl H4 (j := 0) rfl (q := 2) rfl ?_
  refine own_icmpge K own_d2_89 (fun q => absurd q (by decide)) (fun _ => ?_)
  refine own_aloadN K own_d2_92 rfl rfl ?_
  refine own_getfield K own_d2_93 (host := "") (Or.inl (own_w38 hw)) Via.refl H4 (j := 0) rfl (q := 0) rfl ?_
  refine own_iload K own_d2_96 rfl ?_
  refine own_iconst K own_d2_98 (v := (1 : Int32)) rfl ?_
  refine own_iadd K own_d2_99 ?_
  refine own_topI (x' := (2 : Int32)) (by decide) ?_
  refine own_daload K own_d2_100 H4 (i := 0) rfl (q := 2) (by decide) (rfl) ?_
  refine own_aloadN K own_d2_101 rfl rfl ?_
  refine own_getfield K own_d2_102 (host := "") (Or.inl (own_w38 hw)) Via.refl H4 (j := 0) rfl (q := 0) rfl ?_
  refine own_iload K own_d2_105 rfl ?_
  refine own_daload K own_d2_107 H4 (i := 0) rfl (q := 1) (by decide) (rfl) ?_
  refine own_dcmp K own_d2_108 ?_
  refine own_ifge K own_d2_109 (fun ga0 => ?_) (fun ga0 => ?_)
  · rw [own_ged] at ga0
    refine own_dloadN K own_d2_115 rfl ?_
    refine own_aloadN K own_d2_116 rfl rfl ?_
    refine own_getfield K own_d2_117 (host := "") (Or.inl (own_w38 hw)) Via.refl H4 (j := 0) rfl (q := 0) rfl ?_
    refine own_iload K own_d2_120 rfl ?_
    refine own_daload K own_d2_122 H4 (i := 0) rfl (q := 1) (by decide) (rfl) ?_
    refine own_dcmp K own_d2_123 ?_
    refine own_ifgt K own_d2_124 (fun gb0 => ?_) (fun gb0 => ?_)
    · rw [own_gtd] at gb0
      refine own_aloadN K own_d2_130 rfl rfl ?_
      refine own_getfield K own_d2_131 (host := "") (Or.inl (own_w38 hw)) Via.refl H4 (j := 0) rfl (q := 0) rfl ?_
      refine own_iload K own_d2_134 rfl ?_
      refine own_aloadN K own_d2_136 rfl rfl ?_
      refine own_getfield K own_d2_137 (host := "") (Or.inl (own_w38 hw)) Via.refl H4 (j := 0) rfl (q := 0) rfl ?_
      refine own_iload K own_d2_140 rfl ?_
      refine own_daload K own_d2_142 H4 (i := 0) rfl (q := 1) (by decide) (rfl) ?_
      refine own_dastore K own_d2_143 H4 (i := 0) rfl (q := 0) (by decide) (own_le rfl) ?_
      intro h5 H6
      replace H6 : own_H Z h5 (own_DP a (.ref ta) (.ref ca) (.int (4 : Int32)) :: os) ((ta, .double, "[D", ((.double (FP.i2d (za j1))) :: (.double (FP.i2d (za j1))) :: (.double (FP.i2d (za j2))) :: (.double (FP.i2d (za j3))) :: (.double (FP.i2d (za j4))) :: x5 :: tl)) :: (ca, (.object "com/example/slotwise/slotwise/Simulation$Connection"), "[Lcom/example/slotwise/slotwise/Simulation$Connection;", ((.ref (aa j0)) :: (.ref (aa j1)) :: (.ref (aa j2)) :: (.ref (aa j3)) :: .null :: y5 :: tk)) :: as) := H6
      refine own_aloadN K own_d2_144 rfl rfl ?_
      refine own_getfield K own_d2_145 (host := "") (Or.inl (own_w41 hw)) Via.refl H6 (j := 0) rfl (q := 1) rfl ?_
      refine own_iload K own_d2_148 rfl ?_
      refine own_aloadN K own_d2_150 rfl rfl ?_
      refine own_getfield K own_d2_151 (host := "") (Or.inl (own_w41 hw)) Via.refl H6 (j := 0) rfl (q := 1) rfl ?_
      refine own_iload K own_d2_154 rfl ?_
      refine own_aaload K own_d2_156 H6 (i := 1) rfl rfl (q := 1) (by decide) (rfl) ?_
      refine own_aastoreR K own_d2_157 H6 (i := 1) rfl (by decide) (Ins.self (own_atC H6 ho hj1)) (q := 0) (by decide) (own_le rfl) ?_
      intro h7 H8
      replace H8 : own_H Z h7 (own_DP a (.ref ta) (.ref ca) (.int (4 : Int32)) :: os) ((ta, .double, "[D", ((.double (FP.i2d (za j1))) :: (.double (FP.i2d (za j1))) :: (.double (FP.i2d (za j2))) :: (.double (FP.i2d (za j3))) :: (.double (FP.i2d (za j4))) :: x5 :: tl)) :: (ca, (.object "com/example/slotwise/slotwise/Simulation$Connection"), "[Lcom/example/slotwise/slotwise/Simulation$Connection;", ((.ref (aa j1)) :: (.ref (aa j1)) :: (.ref (aa j2)) :: (.ref (aa j3)) :: .null :: y5 :: tk)) :: as) := H8
      refine own_iload K own_d2_158 rfl ?_
      refine own_istore K own_d2_160 (Ls' := #[.val (.ref a), .val (.ref (aa j0)), .val (.double (FP.i2d (za j4))), .second, .val (.ref (aa j4)), .val (.int (1 : Int32)), .val (.int (2 : Int32)), .val (.int (1 : Int32))]) rfl ?_
      refine own_goto K own_d2_162 ?_
      refine own_iload K own_d2_66 rfl ?_
      refine own_iload K own_d2_68 rfl ?_
      refine own_icmpge K own_d2_70 (fun q => absurd q (by decide)) (fun _ => ?_)
      refine own_iconst K own_d2_73 (v := (2 : Int32)) rfl ?_
      refine own_iload K own_d2_74 rfl ?_
      refine own_imul K own_d2_76 ?_
      refine own_topI (x' := (2 : Int32)) (by decide) ?_
      refine own_iconst K own_d2_77 (v := (1 : Int32)) rfl ?_
      refine own_iadd K own_d2_78 ?_
      refine own_topI (x' := (3 : Int32)) (by decide) ?_
      refine own_istore K own_d2_79 (Ls' := #[.val (.ref a), .val (.ref (aa j0)), .val (.double (FP.i2d (za j4))), .second, .val (.ref (aa j4)), .val (.int (1 : Int32)), .val (.int (2 : Int32)), .val (.int (3 : Int32))]) rfl ?_
      refine own_iload K own_d2_81 rfl ?_
      refine own_iconst K own_d2_83 (v := (1 : Int32)) rfl ?_
      refine own_iadd K own_d2_84 ?_
      refine own_topI (x' := (4 : Int32)) (by decide) ?_
      refine own_aloadN K own_d2_85 rfl rfl ?_
      refine own_getfield K own_d2_86 (host := "") (Or.inl (own_w48 hw)) Via.refl H8 (j := 0) rfl (q := 2) rfl ?_
      refine own_icmpge K own_d2_89 (fun _ => ?_) (fun q => absurd (by decide) q)
      refine own_dloadN K own_d2_115 rfl ?_
      refine own_aloadN K own_d2_116 rfl rfl ?_
      refine own_getfield K own_d2_117 (host := "") (Or.inl (own_w38 hw)) Via.refl H8 (j := 0) rfl (q := 0) rfl ?_
      refine own_iload K own_d2_120 rfl ?_
      refine own_daload K own_d2_122 H8 (i := 0) rfl (q := 3) (by decide) (rfl) ?_
      refine own_dcmp K own_d2_123 ?_
      refine own_ifgt K own_d2_124 (fun gb1 => ?_) (fun gb1 => ?_)
      · rw [own_gtd] at gb1
        refine own_aloadN K own_d2_130 rfl rfl ?_
        refine own_getfield K own_d2_131 (host := "") (Or.inl (own_w38 hw)) Via.refl H8 (j := 0) rfl (q := 0) rfl ?_
        refine own_iload K own_d2_134 rfl ?_
        refine own_aloadN K own_d2_136 rfl rfl ?_
        refine own_getfield K own_d2_137 (host := "") (Or.inl (own_w38 hw)) Via.refl H8 (j := 0) rfl (q := 0) rfl ?_
        refine own_iload K own_d2_140 rfl ?_
        refine own_daload K own_d2_142 H8 (i := 0) rfl (q := 3) (by decide) (rfl) ?_
        refine own_dastore K own_d2_143 H8 (i := 0) rfl (q := 1) (by decide) (own_le rfl) ?_
        intro h9 H10
        replace H10 : own_H Z h9 (own_DP a (.ref ta) (.ref ca) (.int (4 : Int32)) :: os) ((ta, .double, "[D", ((.double (FP.i2d (za j1))) :: (.double (FP.i2d (za j3))) :: (.double (FP.i2d (za j2))) :: (.double (FP.i2d (za j3))) :: (.double (FP.i2d (za j4))) :: x5 :: tl)) :: (ca, (.object "com/example/slotwise/slotwise/Simulation$Connection"), "[Lcom/example/slotwise/slotwise/Simulation$Connection;", ((.ref (aa j1)) :: (.ref (aa j1)) :: (.ref (aa j2)) :: (.ref (aa j3)) :: .null :: y5 :: tk)) :: as) := H10
        refine own_aloadN K own_d2_144 rfl rfl ?_
        refine own_getfield K own_d2_145 (host := "") (Or.inl (own_w41 hw)) Via.refl H10 (j := 0) rfl (q := 1) rfl ?_
        refine own_iload K own_d2_148 rfl ?_
        refine own_aloadN K own_d2_150 rfl rfl ?_
        refine own_getfield K own_d2_151 (host := "") (Or.inl (own_w41 hw)) Via.refl H10 (j := 0) rfl (q := 1) rfl ?_
        refine own_iload K own_d2_154 rfl ?_
        refine own_aaload K own_d2_156 H10 (i := 1) rfl rfl (q := 3) (by decide) (rfl) ?_
        refine own_aastoreR K own_d2_157 H10 (i := 1) rfl (by decide) (Ins.self (own_atC H10 ho hj3)) (q := 1) (by decide) (own_le rfl) ?_
        intro h11 H12
        replace H12 : own_H Z h11 (own_DP a (.ref ta) (.ref ca) (.int (4 : Int32)) :: os) ((ta, .double, "[D", ((.double (FP.i2d (za j1))) :: (.double (FP.i2d (za j3))) :: (.double (FP.i2d (za j2))) :: (.double (FP.i2d (za j3))) :: (.double (FP.i2d (za j4))) :: x5 :: tl)) :: (ca, (.object "com/example/slotwise/slotwise/Simulation$Connection"), "[Lcom/example/slotwise/slotwise/Simulation$Connection;", ((.ref (aa j1)) :: (.ref (aa j3)) :: (.ref (aa j2)) :: (.ref (aa j3)) :: .null :: y5 :: tk)) :: as) := H12
        refine own_iload K own_d2_158 rfl ?_
        refine own_istore K own_d2_160 (Ls' := #[.val (.ref a), .val (.ref (aa j0)), .val (.double (FP.i2d (za j4))), .second, .val (.ref (aa j4)), .val (.int (3 : Int32)), .val (.int (2 : Int32)), .val (.int (3 : Int32))]) rfl ?_
        refine own_goto K own_d2_162 ?_
        refine own_iload K own_d2_66 rfl ?_
        refine own_iload K own_d2_68 rfl ?_
        refine own_icmpge K own_d2_70 (fun _ => ?_) (fun q => absurd (by decide) q)
        refine own_aloadN K own_d2_165 rfl rfl ?_
        refine own_getfield K own_d2_166 (host := "") (Or.inl (own_w38 hw)) Via.refl H12 (j := 0) rfl (q := 0) rfl ?_
        refine own_iload K own_d2_169 rfl ?_
        refine own_dloadN K own_d2_171 rfl ?_
        refine own_dastore K own_d2_172 H12 (i := 0) rfl (q := 3) (by decide) (own_le rfl) ?_
        intro h13 H14
        replace H14 : own_H Z h13 (own_DP a (.ref ta) (.ref ca) (.int (4 : Int32)) :: os) ((ta, .double, "[D", ((.double (FP.i2d (za j1))) :: (.double (FP.i2d (za j3))) :: (.double (FP.i2d (za j2))) :: (.double (FP.i2d (za j4))) :: (.double (FP.i2d (za j4))) :: x5 :: tl)) :: (ca, (.object "com/example/slotwise/slotwise/Simulation$Connection"), "[Lcom/example/slotwise/slotwise/Simulation$Connection;", ((.ref (aa j1)) :: (.ref (aa j3)) :: (.ref (aa j2)) :: (.ref (aa j3)) :: .null :: y5 :: tk)) :: as) := H14
        refine own_aloadN K own_d2_173 rfl rfl ?_
        refine own_getfield K own_d2_174 (host := "") (Or.inl (own_w41 hw)) Via.refl H14 (j := 0) rfl (q := 1) rfl ?_
        refine own_iload K own_d2_177 rfl ?_
        refine own_aload K own_d2_179 rfl rfl ?_
        refine own_aastoreR K own_d2_181 H14 (i := 1) rfl (by decide) (Ins.self (own_atC H14 ho hj4)) (q := 3) (by decide) (own_le rfl) ?_
        intro h15 H16
        replace H16 : own_H Z h15 (own_DP a (.ref ta) (.ref ca) (.int (4 : Int32)) :: os) ((ta, .double, "[D", ((.double (FP.i2d (za j1))) :: (.double (FP.i2d (za j3))) :: (.double (FP.i2d (za j2))) :: (.double (FP.i2d (za j4))) :: (.double (FP.i2d (za j4))) :: x5 :: tl)) :: (ca, (.object "com/example/slotwise/slotwise/Simulation$Connection"), "[Lcom/example/slotwise/slotwise/Simulation$Connection;", ((.ref (aa j1)) :: (.ref (aa j3)) :: (.ref (aa j2)) :: (.ref (aa j4)) :: .null :: y5 :: tk)) :: as) := H16
        refine own_aloadN K own_d2_182 rfl rfl ?_
        exact own_retA K rfl rfl own_d2_183 (by decide) (by decide) (⟨rfl, j1, j3, j2, j4, List.Perm.cons j1 ((List.perm_middle (l₁ := [j3]) (a := j2) (l₂ := [j4])).trans (List.Perm.cons j2 (List.Perm.cons j3 (List.Perm.cons j4 (List.Perm.nil))))), by omega, by omega, by omega, by omega, hj1, hj3, hj2, hj4, H16⟩)
      · rw [own_gtd] at gb1
        refine own_goto K own_d2_127 ?_
        refine own_aloadN K own_d2_165 rfl rfl ?_
        refine own_getfield K own_d2_166 (host := "") (Or.inl (own_w38 hw)) Via.refl H8 (j := 0) rfl (q := 0) rfl ?_
        refine own_iload K own_d2_169 rfl ?_
        refine own_dloadN K own_d2_171 rfl ?_
        refine own_dastore K own_d2_172 H8 (i := 0) rfl (q := 1) (by decide) (own_le rfl) ?_
        intro h17 H18
        replace H18 : own_H Z h17 (own_DP a (.ref ta) (.ref ca) (.int (4 : Int32)) :: os) ((ta, .double, "[D", ((.double (FP.i2d (za j1))) :: (.double (FP.i2d (za j4))) :: (.double (FP.i2d (za j2))) :: (.double (FP.i2d (za j3))) :: (.double (FP.i2d (za j4))) :: x5 :: tl)) :: (ca, (.object "com/example/slotwise/slotwise/Simulation$Connection"), "[Lcom/example/slotwise/slotwise/Simulation$Connection;", ((.ref (aa j1)) :: (.ref (aa j1)) :: (.ref (aa j2)) :: (.ref (aa j3)) :: .null :: y5 :: tk)) :: as) := H18
        refine own_aloadN K own_d2_173 rfl rfl ?_
        refine own_getfield K own_d2_174 (host := "") (Or.inl (own_w41 hw)) Via.refl H18 (j := 0) rfl (q := 1) rfl ?_
        refine own_iload K own_d2_177 rfl ?_
        refine own_aload K own_d2_179 rfl rfl ?_
        refine own_aastoreR K own_d2_181 H18 (i := 1) rfl (by decide) (Ins.self (own_atC H18 ho hj4)) (q := 1) (by decide) (own_le rfl) ?_
        intro h19 H20
        replace H20 : own_H Z h19 (own_DP a (.ref ta) (.ref ca) (.int (4 : Int32)) :: os) ((ta, .double, "[D", ((.double (FP.i2d (za j1))) :: (.double (FP.i2d (za j4))) :: (.double (FP.i2d (za j2))) :: (.double (FP.i2d (za j3))) :: (.double (FP.i2d (za j4))) :: x5 :: tl)) :: (ca, (.object "com/example/slotwise/slotwise/Simulation$Connection"), "[Lcom/example/slotwise/slotwise/Simulation$Connection;", ((.ref (aa j1)) :: (.ref (aa j4)) :: (.ref (aa j2)) :: (.ref (aa j3)) :: .null :: y5 :: tk)) :: as) := H20
        refine own_aloadN K own_d2_182 rfl rfl ?_
        exact own_retA K rfl rfl own_d2_183 (by decide) (by decide) (⟨rfl, j1, j4, j2, j3, List.Perm.cons j1 ((List.perm_middle (l₁ := [j4]) (a := j2) (l₂ := [j3])).trans (List.Perm.cons j2 ((List.perm_middle (l₁ := [j4]) (a := j3) (l₂ := [])).trans (List.Perm.cons j3 (List.Perm.cons j4 (List.Perm.nil)))))), by omega, by omega, by omega, by omega, hj1, hj4, hj2, hj3, H20⟩)
    · rw [own_gtd] at gb0
      refine own_goto K own_d2_127 ?_
      refine own_aloadN K own_d2_165 rfl rfl ?_
      refine own_getfield K own_d2_166 (host := "") (Or.inl (own_w38 hw)) Via.refl H4 (j := 0) rfl (q := 0) rfl ?_
      refine own_iload K own_d2_169 rfl ?_
      refine own_dloadN K own_d2_171 rfl ?_
      refine own_dastore K own_d2_172 H4 (i := 0) rfl (q := 0) (by decide) (own_le rfl) ?_
      intro h21 H22
      replace H22 : own_H Z h21 (own_DP a (.ref ta) (.ref ca) (.int (4 : Int32)) :: os) ((ta, .double, "[D", ((.double (FP.i2d (za j4))) :: (.double (FP.i2d (za j1))) :: (.double (FP.i2d (za j2))) :: (.double (FP.i2d (za j3))) :: (.double (FP.i2d (za j4))) :: x5 :: tl)) :: (ca, (.object "com/example/slotwise/slotwise/Simulation$Connection"), "[Lcom/example/slotwise/slotwise/Simulation$Connection;", ((.ref (aa j0)) :: (.ref (aa j1)) :: (.ref (aa j2)) :: (.ref (aa j3)) :: .null :: y5 :: tk)) :: as) := H22
      refine own_aloadN K own_d2_173 rfl rfl ?_
      refine own_getfield K own_d2_174 (host := "") (Or.inl (own_w41 hw)) Via.refl H22 (j := 0) rfl (q := 1) rfl ?_
      refine own_iload K own_d2_177 rfl ?_
      refine own_aload K own_d2_179 rfl rfl ?_
      refine own_aastoreR K own_d2_181 H22 (i := 1) rfl (by decide) (Ins.self (own_atC H22 ho hj4)) (q := 0) (by decide) (own_le rfl) ?_
      intro h23 H24
      replace H24 : own_H Z h23 (own_DP a (.ref ta) (.ref ca) (.int (4 : Int32)) :: os) ((ta, .double, "[D", ((.double (FP.i2d (za j4))) :: (.double (FP.i2d (za j1))) :: (.double (FP.i2d (za j2))) :: (.double (FP.i2d (za j3))) :: (.double (FP.i2d (za j4))) :: x5 :: tl)) :: (ca, (.object "com/example/slotwise/slotwise/Simulation$Connection"), "[Lcom/example/slotwise/slotwise/Simulation$Connection;", ((.ref (aa j4)) :: (.ref (aa j1)) :: (.ref (aa j2)) :: (.ref (aa j3)) :: .null :: y5 :: tk)) :: as) := H24
      refine own_aloadN K own_d2_182 rfl rfl ?_
      exact own_retA K rfl rfl own_d2_183 (by decide) (by decide) (⟨rfl, j4, j1, j2, j3, (List.perm_middle (l₁ := [j4]) (a := j1) (l₂ := [j2, j3])).trans (List.Perm.cons j1 ((List.perm_middle (l₁ := [j4]) (a := j2) (l₂ := [j3])).trans (List.Perm.cons j2 ((List.perm_middle (l₁ := [j4]) (a := j3) (l₂ := [])).trans (List.Perm.cons j3 (List.Perm.cons j4 (List.Perm.nil))))))), by omega, by omega, by omega, by omega, hj4, hj1, hj2, hj3, H24⟩)
  · rw [own_ged] at ga0
    refine own_iinc K own_d2_112 rfl (y := (2 : Int32)) (by decide) (Ls' := #[.val (.ref a), .val (.ref (aa j0)), .val (.double (FP.i2d (za j4))), .second, .val (.ref (aa j4)), .val (.int (0 : Int32)), .val (.int (2 : Int32)), .val (.int (2 : Int32))]) rfl ?_
    refine own_dloadN K own_d2_115 rfl ?_
    refine own_aloadN K own_d2_116 rfl rfl ?_
    refine own_getfield K own_d2_117 (host := "") (Or.inl (own_w38 hw)) Via.refl H4 (j := 0) rfl (q := 0) rfl ?_
    refine own_iload K own_d2_120 rfl ?_
    refine own_daload K own_d2_122 H4 (i := 0) rfl (q := 2) (by decide) (rfl) ?_
    refine own_dcmp K own_d2_123 ?_
    refine own_ifgt K own_d2_124 (fun gb0 => ?_) (fun gb0 => ?_)
    · rw [own_gtd] at gb0
      refine own_aloadN K own_d2_130 rfl rfl ?_
      refine own_getfield K own_d2_131 (host := "") (Or.inl (own_w38 hw)) Via.refl H4 (j := 0) rfl (q := 0) rfl ?_
      refine own_iload K own_d2_134 rfl ?_
      refine own_aloadN K own_d2_136 rfl rfl ?_
      refine own_getfield K own_d2_137 (host := "") (Or.inl (own_w38 hw)) Via.refl H4 (j := 0) rfl (q := 0) rfl ?_
      refine own_iload K own_d2_140 rfl ?_
      refine own_daload K own_d2_142 H4 (i := 0) rfl (q := 2) (by decide) (rfl) ?_
      refine own_dastore K own_d2_143 H4 (i := 0) rfl (q := 0) (by decide) (own_le rfl) ?_
      intro h25 H26
      replace H26 : own_H Z h25 (own_DP a (.ref ta) (.ref ca) (.int (4 : Int32)) :: os) ((ta, .double, "[D", ((.double (FP.i2d (za j2))) :: (.double (FP.i2d (za j1))) :: (.double (FP.i2d (za j2))) :: (.double (FP.i2d (za j3))) :: (.double (FP.i2d (za j4))) :: x5 :: tl)) :: (ca, (.object "com/example/slotwise/slotwise/Simulation$Connection"), "[Lcom/example/slotwise/slotwise/Simulation$Connection;", ((.ref (aa j0)) :: (.ref (aa j1)) :: (.ref (aa j2)) :: (.ref (aa j3)) :: .null :: y5 :: tk)) :: as) := H26
      refine own_aloadN K own_d2_144 rfl rfl ?_
      refine own_getfield K own_d2_145 (host := "") (Or.inl (own_w41 hw)) Via.refl H26 (j := 0) rfl (q := 1) rfl ?_
      refine own_iload K own_d2_148 rfl ?_
      refine own_aloadN K own_d2_150 rfl rfl ?_
      refine own_getfield K own_d2_151 (host := "") (Or.inl (own_w41 hw)) Via.refl H26 (j := 0) rfl (q := 1) rfl ?_
      refine own_iload K own_d2_154 rfl ?_
      refine own_aaload K own_d2_156 H26 (i := 1) rfl rfl (q := 2) (by decide) (rfl) ?_
      refine own_aastoreR K own_d2_157 H26 (i := 1) rfl (by decide) (Ins.self (own_atC H26 ho hj2)) (q := 0) (by decide) (own_le rfl) ?_
      intro h27 H28
      replace H28 : own_H Z h27 (own_DP a (.ref ta) (.ref ca) (.int (4 : Int32)) :: os) ((ta, .double, "[D", ((.double (FP.i2d (za j2))) :: (.double (FP.i2d (za j1))) :: (.double (FP.i2d (za j2))) :: (.double (FP.i2d (za j3))) :: (.double (FP.i2d (za j4))) :: x5 :: tl)) :: (ca, (.object "com/example/slotwise/slotwise/Simulation$Connection"), "[Lcom/example/slotwise/slotwise/Simulation$Connection;", ((.ref (aa j2)) :: (.ref (aa j1)) :: (.ref (aa j2)) :: (.ref (aa j3)) :: .null :: y5 :: tk)) :: as) := H28
      refine own_iload K own_d2_158 rfl ?_
      refine own_istore K own_d2_160 (Ls' := #[.val (.ref a), .val (.ref (aa j0)), .val (.double (FP.i2d (za j4))), .second, .val (.ref (aa j4)), .val (.int (2 : Int32)), .val (.int (2 : Int32)), .val (.int (2 : Int32))]) rfl ?_
      refine own_goto K own_d2_162 ?_
      refine own_iload K own_d2_66 rfl ?_
      refine own_iload K own_d2_68 rfl ?_
      refine own_icmpge K own_d2_70 (fun _ => ?_) (fun q => absurd (by decide) q)
      refine own_aloadN K own_d2_165 rfl rfl ?_
      refine own_getfield K own_d2_166 (host := "") (Or.inl (own_w38 hw)) Via.refl H28 (j := 0) rfl (q := 0) rfl ?_
      refine own_iload K own_d2_169 rfl ?_
      refine own_dloadN K own_d2_171 rfl ?_
      refine own_dastore K own_d2_172 H28 (i := 0) rfl (q := 2) (by decide) (own_le rfl) ?_
      intro h29 H30
      replace H30 : own_H Z h29 (own_DP a (.ref ta) (.ref ca) (.int (4 : Int32)) :: os) ((ta, .double, "[D", ((.double (FP.i2d (za j2))) :: (.double (FP.i2d (za j1))) :: (.double (FP.i2d (za j4))) :: (.double (FP.i2d (za j3))) :: (.double (FP.i2d (za j4))) :: x5 :: tl)) :: (ca, (.object "com/example/slotwise/slotwise/Simulation$Connection"), "[Lcom/example/slotwise/slotwise/Simulation$Connection;", ((.ref (aa j2)) :: (.ref (aa j1)) :: (.ref (aa j2)) :: (.ref (aa j3)) :: .null :: y5 :: tk)) :: as) := H30
      refine own_aloadN K own_d2_173 rfl rfl ?_
      refine own_getfield K own_d2_174 (host := "") (Or.inl (own_w41 hw)) Via.refl H30 (j := 0) rfl (q := 1) rfl ?_
      refine own_iload K own_d2_177 rfl ?_
      refine own_aload K own_d2_179 rfl rfl ?_
      refine own_aastoreR K own_d2_181 H30 (i := 1) rfl (by decide) (Ins.self (own_atC H30 ho hj4)) (q := 2) (by decide) (own_le rfl) ?_
      intro h31 H32
      replace H32 : own_H Z h31 (own_DP a (.ref ta) (.ref ca) (.int (4 : Int32)) :: os) ((ta, .double, "[D", ((.double (FP.i2d (za j2))) :: (.double (FP.i2d (za j1))) :: (.double (FP.i2d (za j4))) :: (.double (FP.i2d (za j3))) :: (.double (FP.i2d (za j4))) :: x5 :: tl)) :: (ca, (.object "com/example/slotwise/slotwise/Simulation$Connection"), "[Lcom/example/slotwise/slotwise/Simulation$Connection;", ((.ref (aa j2)) :: (.ref (aa j1)) :: (.ref (aa j4)) :: (.ref (aa j3)) :: .null :: y5 :: tk)) :: as) := H32
      refine own_aloadN K own_d2_182 rfl rfl ?_
      exact own_retA K rfl rfl own_d2_183 (by decide) (by decide) (⟨rfl, j2, j1, j4, j3, (List.perm_middle (l₁ := [j2]) (a := j1) (l₂ := [j4, j3])).trans (List.Perm.cons j1 (List.Perm.cons j2 ((List.perm_middle (l₁ := [j4]) (a := j3) (l₂ := [])).trans (List.Perm.cons j3 (List.Perm.cons j4 (List.Perm.nil)))))), by omega, by omega, by omega, by omega, hj2, hj1, hj4, hj3, H32⟩)
    · rw [own_gtd] at gb0
      refine own_goto K own_d2_127 ?_
      refine own_aloadN K own_d2_165 rfl rfl ?_
      refine own_getfield K own_d2_166 (host := "") (Or.inl (own_w38 hw)) Via.refl H4 (j := 0) rfl (q := 0) rfl ?_
      refine own_iload K own_d2_169 rfl ?_
      refine own_dloadN K own_d2_171 rfl ?_
      refine own_dastore K own_d2_172 H4 (i := 0) rfl (q := 0) (by decide) (own_le rfl) ?_
      intro h33 H34
      replace H34 : own_H Z h33 (own_DP a (.ref ta) (.ref ca) (.int (4 : Int32)) :: os) ((ta, .double, "[D", ((.double (FP.i2d (za j4))) :: (.double (FP.i2d (za j1))) :: (.double (FP.i2d (za j2))) :: (.double (FP.i2d (za j3))) :: (.double (FP.i2d (za j4))) :: x5 :: tl)) :: (ca, (.object "com/example/slotwise/slotwise/Simulation$Connection"), "[Lcom/example/slotwise/slotwise/Simulation$Connection;", ((.ref (aa j0)) :: (.ref (aa j1)) :: (.ref (aa j2)) :: (.ref (aa j3)) :: .null :: y5 :: tk)) :: as) := H34
      refine own_aloadN K own_d2_173 rfl rfl ?_
      refine own_getfield K own_d2_174 (host := "") (Or.inl (own_w41 hw)) Via.refl H34 (j := 0) rfl (q := 1) rfl ?_
      refine own_iload K own_d2_177 rfl ?_
      refine own_aload K own_d2_179 rfl rfl ?_
      refine own_aastoreR K own_d2_181 H34 (i := 1) rfl (by decide) (Ins.self (own_atC H34 ho hj4)) (q := 0) (by decide) (own_le rfl) ?_
      intro h35 H36
      replace H36 : own_H Z h35 (own_DP a (.ref ta) (.ref ca) (.int (4 : Int32)) :: os) ((ta, .double, "[D", ((.double (FP.i2d (za j4))) :: (.double (FP.i2d (za j1))) :: (.double (FP.i2d (za j2))) :: (.double (FP.i2d (za j3))) :: (.double (FP.i2d (za j4))) :: x5 :: tl)) :: (ca, (.object "com/example/slotwise/slotwise/Simulation$Connection"), "[Lcom/example/slotwise/slotwise/Simulation$Connection;", ((.ref (aa j4)) :: (.ref (aa j1)) :: (.ref (aa j2)) :: (.ref (aa j3)) :: .null :: y5 :: tk)) :: as) := H36
      refine own_aloadN K own_d2_182 rfl rfl ?_
      exact own_retA K rfl rfl own_d2_183 (by decide) (by decide) (⟨rfl, j4, j1, j2, j3, (List.perm_middle (l₁ := [j4]) (a := j1) (l₂ := [j2, j3])).trans (List.Perm.cons j1 ((List.perm_middle (l₁ := [j4]) (a := j2) (l₂ := [j3])).trans (List.Perm.cons j2 ((List.perm_middle (l₁ := [j4]) (a := j3) (l₂ := [])).trans (List.Perm.cons j3 (List.Perm.cons j4 (List.Perm.nil))))))), by omega, by omega, by omega, by omega, hj4, hj1, hj2, hj3, H36⟩)
set_option maxRecDepth 65536 in
set_option maxHeartbeats 40000000 in
theorem own_poll4_ef (m : MethodId) (x0 : Addr) : entryFrame m #[(.ref x0)] 8 = mkF m 0 #[.val (.ref x0), .unset, .unset, .unset, .unset, .unset, .unset, .unset] [] := by first | (simp [entryFrame, mkF, argsToLocals, Value.category]; done) | rfl
set_option maxRecDepth 65536 in
set_option maxHeartbeats 40000000 in
theorem own_poll4 {l : Launch} {Z : State} {a0 : Array Value} (hw : own_Z Z a0) {h : Heap} {os : List own_O} {as : List own_A} {aa : Nat → Addr} {za : Nat → Int32} {a ta ca : Addr} {tl tk : List Value} {j0 j1 j2 j3 : Nat} {x4 x5 y4 y5 : Value} (H : own_H Z h (own_DP a (.ref ta) (.ref ca) (.int (4 : Int32)) :: os) ((ta, .double, "[D", ((.double (FP.i2d (za j0))) :: (.double (FP.i2d (za j1))) :: (.double (FP.i2d (za j2))) :: (.double (FP.i2d (za j3))) :: x4 :: x5 :: tl)) :: (ca, (.object "com/example/slotwise/slotwise/Simulation$Connection"), "[Lcom/example/slotwise/slotwise/Simulation$Connection;", ((.ref (aa j0)) :: (.ref (aa j1)) :: (.ref (aa j2)) :: (.ref (aa j3)) :: y4 :: y5 :: tk)) :: as)) (ho : ∀ j, j < 6 → ∃ i : Nat, os[i]? = some (own_c aa za j)) (hj0 : j0 < 6) (hj1 : j1 < 6) (hj2 : j2 < 6) (hj3 : j3 < 6) (p0 : (za j0).toInt ≤ (za j1).toInt) (p1 : (za j0).toInt ≤ (za j2).toInt) (p2 : (za j1).toInt ≤ (za j3).toInt) : own_Met false l Z (⟨"com/example/slotwise/slotwise/Departures", "poll", "()Lcom/example/slotwise/slotwise/Simulation$Connection;"⟩ : MethodName) prog_10_method_5_code 8 (some (.object "com/example/slotwise/slotwise/Simulation$Connection")) [] ({ frames := 0, cells := 0, slots := 0, locals := 0 } : Room) #[(.ref a)] h (fun v h' => v = some (.ref (aa j0)) ∧ ∃ k0 k1 k2, List.Perm [k0, k1, k2] [j1, j2, j3] ∧ (za k0).toInt ≤ (za k1).toInt ∧ (za k0).toInt ≤ (za k2).toInt ∧ (za j0).toInt ≤ (za k0).toInt ∧ k0 < 6 ∧ k1 < 6 ∧ k2 < 6 ∧ own_H Z h' (own_DP a (.ref ta) (.ref ca) (.int (3 : Int32)) :: os) ((ta, .double, "[D", ((.double (FP.i2d (za k0))) :: (.double (FP.i2d (za k1))) :: (.double (FP.i2d (za k2))) :: (.double (FP.i2d (za j3))) :: x4 :: x5 :: tl)) :: (ca, (.object "com/example/slotwise/slotwise/Simulation$Connection"), "[Lcom/example/slotwise/slotwise/Simulation$Connection;", ((.ref (aa k0)) :: (.ref (aa k1)) :: (.ref (aa k2)) :: .null :: y4 :: y5 :: tk)) :: as)) := by
  refine own_met (by first | exact plainFor_of_name (by decide +kernel) | decide +kernel) ?_
  intro p e s m below meth c K
  refine own_cast (own_poll4_ef m _) ?_
  refine own_aloadN K own_d2_0 rfl rfl ?_
  refine own_getfield K own_d2_1 (host := "") (Or.inl (own_w41 hw)) Via.refl H (j := 0) rfl (q := 1) rfl ?_
  refine own_iconst K own_d2_4 (v := (0 : Int32)) rfl ?_
  refine own_aaload K own_d2_5 H (i := 1) rfl rfl (q := 0) (by decide) (rfl) ?_
  refine own_astoreN K own_d2_6 rfl (Ls' := #[.val (.ref a), .val (.ref (aa j0)), .unset, .unset, .unset, .unset, .unset, .unset]) rfl ?_
  refine own_aloadN K own_d2_7 rfl rfl ?_
  refine own_dup K own_d2_8 rfl ?_
  refine own_getfield K own_d2_9 (host := "") (Or.inl (own_w48 hw)) Via.refl H (j := 0) rfl (q := 2) rfl ?_
  refine own_iconst K own_d2_12 (v := (1 : Int32)) rfl ?_
  refine own_isub K own_d2_13 ?_
  refine own_topI (x' := (3 : Int32)) (by decide) ?_
  refine own_putfield K own_d2_14 (host := "") (Or.inl (own_w48 hw)) Via.refl H (j := 0) rfl (q := 2) rfl (Or.inl (own_w49 hw)) (own_w31 hw) (ty := .int) (by decide +kernel) (rfl) rfl ?_
  intro h1 H2
  replace H2 : own_H Z h1 (own_DP a (.ref ta) (.ref ca) (.int (3 : Int32)) :: os) ((ta, .double, "[D", ((.double (FP.i2d (za j0))) :: (.double (FP.i2d (za j1))) :: (.double (FP.i2d (za j2))) :: (.double (FP.i2d (za j3))) :: x4 :: x5 :: tl)) :: (ca, (.object "com/example/slotwise/slotwise/Simulation$Connection"), "[Lcom/example/slotwise/slotwise/Simulation$Connection;", ((.ref (aa j0)) :: (.ref (aa j1)) :: (.ref (aa j2)) :: (.ref (aa j3)) :: y4 :: y5 :: tk)) :: as) := H2
  refine own_aloadN K own_d2_17 rfl rfl ?_
  refine own_getfield K own_d2_18 (host := "") (Or.inl (own_w38 hw)) Via.refl H2 (j := 0) rfl (q := 0) rfl ?_
  refine own_aloadN K own_d2_21 rfl rfl ?_
  refine own_getfield K own_d2_22 (host := "") (Or.inl (own_w48 hw)) Via.refl H2 (j := 0) rfl (q := 2) rfl ?_
  refine own_daload K own_d2_25 H2 (i := 0) rfl (q := 3) (by decide) (rfl) ?_
  refine own_dstoreN K own_d2_26 (Ls' := #[.val (.ref a), .val (.ref (aa j0)), .val (.double (FP.i2d (za j3))), .second, .unset, .unset, .unset, .unset]) rfl ?_
  refine own_aloadN K own_d2_27 rfl rfl ?_
  refine own_getfield K own_d2_28 (host := "") (Or.inl (own_w41 hw)) Via.refl H2 (j := 0) rfl (q := 1) rfl ?_
  refine own_aloadN K own_d2_31 rfl rfl ?_
  refine own_getfield K own_d2_32 (host := "") (Or.inl (own_w48 hw)) Via.refl H2 (j := 0) rfl (q := 2) rfl ?_
  refine own_aaload K own_d2_35 H2 (i := 1) rfl rfl (q := 3) (by decide) (rfl) ?_
  refine own_astore K own_d2_36 rfl (Ls' := #[.val (.ref a), .val (.ref (aa j0)), .val (.double (FP.i2d (za j3))), .second, .val (.ref (aa j3)), .unset, .unset, .unset]) rfl ?_
  refine own_aloadN K own_d2_38 rfl rfl ?_
  refine own_getfield K own_d2_39 (host := "") (Or.inl (own_w41 hw)) Via.refl H2 (j := 0) rfl (q := 1) rfl ?_
  refine own_aloadN K own_d2_42 rfl rfl ?_
  refine own_getfield K own_d2_43 (host := "") (Or.inl (own_w48 hw)) Via.refl H2 (j := 0) rfl (q := 2) rfl ?_
  refine own_aconstNull K own_d2_46 ?_
  refine own_aastoreN K own_d2_47 H2 (i := 1) rfl (q := 3) (by decide) (own_le rfl) ?_
  intro h3 H4
  replace H4 : own_H Z h3 (own_DP a (.ref ta) (.ref ca) (.int (3 : Int32)) :: os) ((ta, .double, "[D", ((.double (FP.i2d (za j0))) :: (.double (FP.i2d (za j1))) :: (.double (FP.i2d (za j2))) :: (.double (FP.i2d (za j3))) :: x4 :: x5 :: tl)) :: (ca, (.object "com/example/slotwise/slotwise/Simulation$Connection"), "[Lcom/example/slotwise/slotwise/Simulation$Connection;", ((.ref (aa j0)) :: (.ref (aa j1)) :: (.ref (aa j2)) :: .null :: y4 :: y5 :: tk)) :: as) := H4
  refine own_aloadN K own_d2_48 rfl rfl ?_
  refine own_getfield K own_d2_49 (host := "") (Or.inl (own_w48 hw)) Via.refl H4 (j := 0) rfl (q := 2) rfl ?_
  refine own_ifle K own_d2_52 (fun q => absurd q (by decide)) (fun _ => ?_)
  refine own_iconst K own_d2_55 (v := (0 : Int32)) rfl ?_
  refine own_istore K own_d2_56 (Ls' := #[.val (.ref a), .val (.ref (aa j0)), .val (.double (FP.i2d (za j3))), .second, .val (.ref (aa j3)), .val (.int (0 : Int32)), .unset, .unset]) rfl ?_
  refine own_aloadN K own_d2_58 rfl rfl ?_
  refine own_getfield K own_d2_59 (host := "") (Or.inl (own_w48 hw)) Via.refl H4 (j := 0) rfl (q := 2) rfl ?_
  refine own_iconst K own_d2_62 (v := (1 : Int32)) rfl ?_
  refine own_iushr K own_d2_63 ?_
  refine own_topI (x' := (1 : Int32)) (by decide) ?_
  refine own_istore K own_d2_64 (Ls' := #[.val (.ref a), .val (.ref (aa j0)), .val (.double (FP.i2d (za j3))), .second, .val (.ref (aa j3)), .val (.int (0 : Int32)), .val (.int (1 : Int32)), .unset]) rfl ?_
  refine own_iload K own_d2_66 rfl ?_
  refine own_iload K own_d2_68 rfl ?_
  refine own_icmpge K own_d2_70 (fun q => absurd q (by decide)) (fun _ => ?_)
  refine own_iconst K own_d2_73 (v := (2 : Int32)) rfl ?_
  refine own_iload K own_d2_74 rfl ?_
  refine own_imul K own_d2_76 ?_
  refine own_topI (x' := (0 : Int32)) (by decide) ?_
  refine own_iconst K own_d2_77 (v := (1 : Int32)) rfl ?_
  refine own_iadd K own_d2_78 ?_
  refine own_topI (x' := (1 : Int32)) (by decide) ?_
  refine own_istore K own_d2_79 (Ls' := #[.val (.ref a), .val (.ref (aa j0)), .val (.double (FP.i2d (za j3))), .second, .val (.ref (aa j3)), .val (.int (0 : Int32)), .val (.int (1 : Int32)), .val (.int (1 : Int32))]) rfl ?_
  refine own_iload K own_d2_81 rfl ?_
  refine own_iconst K own_d2_83 (v := (1 : Int32)) rfl ?_
  refine own_iadd K own_d2_84 ?_
  refine own_topI (x' := (2 : Int32)) (by decide) ?_
  refine own_aloadN K own_d2_85 rfl rfl ?_
  refine own_getfield K own_d2_86 (host := "") (Or.inl (own_w48 hw)) Via.refl H4 (j := 0) rfl (q := 2) rfl ?_
  refine own_icmpge K own_d2_89 (fun q => absurd q (by decide)) (fun _ => ?_)
  refine own_aloadN K own_d2_92 rfl rfl ?_
  refine own_getfield K own_d2_93 (host := "") (Or.inl (own_w38 hw)) Via.refl H4 (j := 0) rfl (q := 0) rfl ?_
  refine own_iload K own_d2_96 rfl ?_
  refine own_iconst K own_d2_98 (v := (1 : Int32)) rfl ?_
  refine own_iadd K own_d2_99 ?_
  refine own_topI (x' := (2 : Int32)) (by decide) ?_
  refine own_daload K own_d2_100 H4 (i := 0) rfl (q := 2) (by decide) (rfl) ?_
  refine own_aloadN K own_d2_101 rfl rfl ?_
  refine own_getfield K own_d2_102 (host := "") (Or.inl (own_w38 hw)) Via.refl H4 (j := 0) rfl (q := 0) rfl ?_
  refine own_iload K own_d2_105 rfl ?_
  refine own_daload K own_d2_107 H4 (i := 0) rfl (q := 1) (by decide) (rfl) ?_
  refine own_dcmp K own_d2_108 ?_
  refine own_ifge K own_d2_109 (fun ga0 => ?_) (fun ga0 => ?_)
  · rw [own_ged] at ga0
    refine own_dloadN K own_d2_115 rfl ?_
    refine own_aloadN K own_d2_116 rfl rfl ?_
    refine own_getfield K own_d2_117 (host := "") (Or.inl (own_w38 hw)) Via.refl H4 (j := 0) rfl (q := 0) rfl ?_
    refine own_iload K own_d2_120 rfl ?_
    refine own_daload K own_d2_122 H4 (i := 0) rfl (q := 1) (by decide) (rfl) ?_
    refine own_dcmp K own_d2_123 ?_
    refine own_ifgt K own_d2_124 (fun gb0 => ?_) (fun gb0 => ?_)
    · rw [own_gtd] at gb0
      refine own_aloadN K own_d2_130 rfl rfl ?_
      refine own_getfield K own_d2_131 (host := "") (Or.inl (own_w38 hw)) Via.refl H4 (j := 0) rfl (q := 0) rfl ?_
      refine own_iload K own_d2_134 rfl ?_
      refine own_aloadN K own_d2_136 rfl rfl ?_
      refine own_getfield K own_d2_137 (host := "") (Or.inl (own_w38 hw)) Via.refl H4 (j := 0) rfl (q := 0) rfl ?_
      refine own_iload K own_d2_140 rfl ?_
      refine own_daload K own_d2_142 H4 (i := 0) rfl (q := 1) (by decide) (rfl) ?_
      refine own_dastore K own_d2_143 H4 (i := 0) rfl (q := 0) (by decide) (own_le rfl) ?_
      intro h5 H6
      replace H6 : own_H Z h5 (own_DP a (.ref ta) (.ref ca) (.int (3 : Int32)) :: os) ((ta, .double, "[D", ((.double (FP.i2d (za j1))) :: (.double (FP.i2d (za j1))) :: (.double (FP.i2d (za j2))) :: (.double (FP.i2d (za j3))) :: x4 :: x5 :: tl)) :: (ca, (.object "com/example/slotwise/slotwise/Simulation$Connection"), "[Lcom/example/slotwise/slotwise/Simulation$Connection;", ((.ref (aa j0)) :: (.ref (aa j1)) :: (.ref (aa j2)) :: .null :: y4 :: y5 :: tk)) :: as) := H6
      refine own_aloadN K own_d2_144 rfl rfl ?_
      refine own_getfield K own_d2_145 (host := "") (Or.inl (own_w41 hw)) Via.refl H6 (j := 0) rfl (q := 1) rfl ?_
      refine own_iload K own_d2_148 rfl ?_
      refine own_aloadN K own_d2_150 rfl rfl ?_
      refine own_getfield K own_d2_151 (host := "") (Or.inl (own_w41 hw)) Via.refl H6 (j := 0) rfl (q := 1) rfl ?_
      refine own_iload K own_d2_154 rfl ?_
      refine own_aaload K own_d2_156 H6 (i := 1) rfl rfl (q := 1) (by decide) (rfl) ?_
      refine own_aastoreR K own_d2_157 H6 (i := 1) rfl (by decide) (Ins.self (own_atC H6 ho hj1)) (q := 0) (by decide) (own_le rfl) ?_
      intro h7 H8
      replace H8 : own_H Z h7 (own_DP a (.ref ta) (.ref ca) (.int (3 : Int32)) :: os) ((ta, .double, "[D", ((.double (FP.i2d (za j1))) :: (.double (FP.i2d (za j1))) :: (.double (FP.i2d (za j2))) :: (.double (FP.i2d (za j3))) :: x4 :: x5 :: tl)) :: (ca, (.object "com/example/slotwise/slotwise/Simulation$Connection"), "[Lcom/example/slotwise/slotwise/Simulation$Connection;", ((.ref (aa j1)) :: (.ref (aa j1)) :: (.ref (aa j2)) :: .null :: y4 :: y5 :: tk)) :: as) := H8
      refine own_iload K own_d2_158 rfl ?_
      refine own_istore K own_d2_160 (Ls' := #[.val (.ref a), .val (.ref (aa j0)), .val (.double (FP.i2d (za j3))), .second, .val (.ref (aa j3)), .val (.int (1 : Int32)), .val (.int (1 : Int32)), .val (.int (1 : Int32))]) rfl ?_
      refine own_goto K own_d2_162 ?_
      refine own_iload K own_d2_66 rfl ?_
      refine own_iload K own_d2_68 rfl ?_
      refine own_icmpge K own_d2_70 (fun _ => ?_) (fun q => absurd (by decide) q)
      refine own_aloadN K own_d2_165 rfl rfl ?_
      refine own_getfield K own_d2_166 (host := "") (Or.inl (own_w38 hw)) Via.refl H8 (j := 0) rfl (q := 0) rfl ?_
      refine own_iload K own_d2_169 rfl ?_
      refine own_dloadN K own_d2_171 rfl ?_
      refine own_dastore K own_d2_172 H8 (i := 0) rfl (q := 1) (by decide) (own_le rfl) ?_
      intro h9 H10
      replace H10 : own_H Z h9 (own_DP a (.ref ta) (.ref ca) (.int (3 : Int32)) :: os) ((ta, .double, "[D", ((.double (FP.i2d (za j1))) :: (.double (FP.i2d (za j3))) :: (.double (FP.i2d (za j2))) :: (.double (FP.i2d (za j3))) :: x4 :: x5 :: tl)) :: (ca, (.object "com/example/slotwise/slotwise/Simulation$Connection"), "[Lcom/example/slotwise/slotwise/Simulation$Connection;", ((.ref (aa j1)) :: (.ref (aa j1)) :: (.ref (aa j2)) :: .null :: y4 :: y5 :: tk)) :: as) := H10
      refine own_aloadN K own_d2_173 rfl rfl ?_
      refine own_getfield K own_d2_174 (host := "") (Or.inl (own_w41 hw)) Via.refl H10 (j := 0) rfl (q := 1) rfl ?_
      refine own_iload K own_d2_177 rfl ?_
      refine own_aload K own_d2_179 rfl rfl ?_
      refine own_aastoreR K own_d2_181 H10 (i := 1) rfl (by decide) (Ins.self (own_atC H10 ho hj3)) (q := 1) (by decide) (own_le rfl) ?_
      intro h11 H12
      replace H12 : own_H Z h11 (own_DP a (.ref ta) (.ref ca) (.int (3 : Int32)) :: os) ((ta, .double, "[D", ((.double (FP.i2d (za j1))) :: (.double (FP.i2d (za j3))) :: (.double (FP.i2d (za j2))) :: (.double (FP.i2d (za j3))) :: x4 :: x5 :: tl)) :: (ca, (.object "com/example/slotwise/slotwise/Simulation$Connection"), "[Lcom/example/slotwise/slotwise/Simulation$Connection;", ((.ref (aa j1)) :: (.ref (aa j3)) :: (.ref (aa j2)) :: .null :: y4 :: y5 :: tk)) :: as) := H12
      refine own_aloadN K own_d2_182 rfl rfl ?_
      exact own_retA K rfl rfl own_d2_183 (by decide) (by decide) (⟨rfl, j1, j3, j2, List.Perm.cons j1 ((List.perm_middle (l₁ := [j3]) (a := j2) (l₂ := [])).trans (List.Perm.cons j2 (List.Perm.cons j3 (List.Perm.nil)))), by omega, by omega, by omega, hj1, hj3, hj2, H12⟩)
    · rw [own_gtd] at gb0
      refine own_goto K own_d2_127 ?_
      refine own_aloadN K own_d2_165 rfl rfl ?_
      refine own_getfield K own_d2_166 (host := "") (Or.inl (own_w38 hw)) Via.refl H4 (j := 0) rfl (q := 0) rfl ?_
      refine own_iload K own_d2_169 rfl ?_
      refine own_dloadN K own_d2_171 rfl ?_
      refine own_dastore K own_d2_172 H4 (i := 0) rfl (q := 0) (by decide) (own_le rfl) ?_
      intro h13 H14
      replace H14 : own_H Z h13 (own_DP a (.ref ta) (.ref ca) (.int (3 : Int32)) :: os) ((ta, .double, "[D", ((.double (FP.i2d (za j3))) :: (.double (FP.i2d (za j1))) :: (.double (FP.i2d (za j2))) :: (.double (FP.i2d (za j3))) :: x4 :: x5 :: tl)) :: (ca, (.object "com/example/slotwise/slotwise/Simulation$Connection"), "[Lcom/example/slotwise/slotwise/Simulation$Connection;", ((.ref (aa j0)) :: (.ref (aa j1)) :: (.ref (aa j2)) :: .null :: y4 :: y5 :: tk)) :: as) := H14
      refine own_aloadN K own_d2_173 rfl rfl ?_
      refine own_getfield K own_d2_174 (host := "") (Or.inl (own_w41 hw)) Via.refl H14 (j := 0) rfl (q := 1) rfl ?_
      refine own_iload K own_d2_177 rfl ?_
      refine own_aload K own_d2_179 rfl rfl ?_
      refine own_aastoreR K own_d2_181 H14 (i := 1) rfl (by decide) (Ins.self (own_atC H14 ho hj3)) (q := 0) (by decide) (own_le rfl) ?_
      intro h15 H16
      replace H16 : own_H Z h15 (own_DP a (.ref ta) (.ref ca) (.int (3 : Int32)) :: os) ((ta, .double, "[D", ((.double (FP.i2d (za j3))) :: (.double (FP.i2d (za j1))) :: (.double (FP.i2d (za j2))) :: (.double (FP.i2d (za j3))) :: x4 :: x5 :: tl)) :: (ca, (.object "com/example/slotwise/slotwise/Simulation$Connection"), "[Lcom/example/slotwise/slotwise/Simulation$Connection;", ((.ref (aa j3)) :: (.ref (aa j1)) :: (.ref (aa j2)) :: .null :: y4 :: y5 :: tk)) :: as) := H16
      refine own_aloadN K own_d2_182 rfl rfl ?_
      exact own_retA K rfl rfl own_d2_183 (by decide) (by decide) (⟨rfl, j3, j1, j2, (List.perm_middle (l₁ := [j3]) (a := j1) (l₂ := [j2])).trans (List.Perm.cons j1 ((List.perm_middle (l₁ := [j3]) (a := j2) (l₂ := [])).trans (List.Perm.cons j2 (List.Perm.cons j3 (List.Perm.nil))))), by omega, by omega, by omega, hj3, hj1, hj2, H16⟩)
  · rw [own_ged] at ga0
    refine own_iinc K own_d2_112 rfl (y := (2 : Int32)) (by decide) (Ls' := #[.val (.ref a), .val (.ref (aa j0)), .val (.double (FP.i2d (za j3))), .second, .val (.ref (aa j3)), .val (.int (0 : Int32)), .val (.int (1 : Int32)), .val (.int (2 : Int32))]) rfl ?_
    refine own_dloadN K own_d2_115 rfl ?_
    refine own_aloadN K own_d2_116 rfl rfl ?_
    refine own_getfield K own_d2_117 (host := "") (Or.inl (own_w38 hw)) Via.refl H4 (j := 0) rfl (q := 0) rfl ?_
    refine own_iload K own_d2_120 rfl ?_
    refine own_daload K own_d2_122 H4 (i := 0) rfl (q := 2) (by decide) (rfl) ?_
    refine own_dcmp K own_d2_123 ?_
    refine own_ifgt K own_d2_124 (fun gb0 => ?_) (fun gb0 => ?_)
    · rw [own_gtd] at gb0
      refine own_aloadN K own_d2_130 rfl rfl ?_
      refine own_getfield K own_d2_131 (host := "") (Or.inl (own_w38 hw)) Via.refl H4 (j := 0) rfl (q := 0) rfl ?_
      refine own_iload K own_d2_134 rfl ?_
      refine own_aloadN K own_d2_136 rfl rfl ?_
      refine own_getfield K own_d2_137 (host := "") (Or.inl (own_w38 hw)) Via.refl H4 (j := 0) rfl (q := 0) rfl ?_
      refine own_iload K own_d2_140 rfl ?_
      refine own_daload K own_d2_142 H4 (i := 0) rfl (q := 2) (by decide) (rfl) ?_
      refine own_dastore K own_d2_143 H4 (i := 0) rfl (q := 0) (by decide) (own_le rfl) ?_
      intro h17 H18
      replace H18 : own_H Z h17 (own_DP a (.ref ta) (.ref ca) (.int (3 : Int32)) :: os) ((ta, .double, "[D", ((.double (FP.i2d (za j2))) :: (.double (FP.i2d (za j1))) :: (.double (FP.i2d (za j2))) :: (.double (FP.i2d (za j3))) :: x4 :: x5 :: tl)) :: (ca, (.object "com/example/slotwise/slotwise/Simulation$Connection"), "[Lcom/example/slotwise/slotwise/Simulation$Connection;", ((.ref (aa j0)) :: (.ref (aa j1)) :: (.ref (aa j2)) :: .null :: y4 :: y5 :: tk)) :: as) := H18
      refine own_aloadN K own_d2_144 rfl rfl ?_
      refine own_getfield K own_d2_145 (host := "") (Or.inl (own_w41 hw)) Via.refl H18 (j := 0) rfl (q := 1) rfl ?_
      refine own_iload K own_d2_148 rfl ?_
      refine own_aloadN K own_d2_150 rfl rfl ?_
      refine own_getfield K own_d2_151 (host := "") (Or.inl (own_w41 hw)) Via.refl H18 (j := 0) rfl (q := 1) rfl ?_
      refine own_iload K own_d2_154 rfl ?_
      refine own_aaload K own_d2_156 H18 (i := 1) rfl rfl (q := 2) (by decide) (rfl) ?_
      refine own_aastoreR K own_d2_157 H18 (i := 1) rfl (by decide) (Ins.self (own_atC H18 ho hj2)) (q := 0) (by decide) (own_le rfl) ?_
      intro h19 H20
      replace H20 : own_H Z h19 (own_DP a (.ref ta) (.ref ca) (.int (3 : Int32)) :: os) ((ta, .double, "[D", ((.double (FP.i2d (za j2))) :: (.double (FP.i2d (za j1))) :: (.double (FP.i2d (za j2))) :: (.double (FP.i2d (za j3))) :: x4 :: x5 :: tl)) :: (ca, (.object "com/example/slotwise/slotwise/Simulation$Connection"), "[Lcom/example/slotwise/slotwise/Simulation$Connection;", ((.ref (aa j2)) :: (.ref (aa j1)) :: (.ref (aa j2)) :: .null :: y4 :: y5 :: tk)) :: as) := H20
      refine own_iload K own_d2_158 rfl ?_
      refine own_istore K own_d2_160 (Ls' := #[.val (.ref a), .val (.ref (aa j0)), .val (.double (FP.i2d (za j3))), .second, .val (.ref (aa j3)), .val (.int (2 : Int32)), .val (.int (1 : Int32)), .val (.int (2 : Int32))]) rfl ?_
      refine own_goto K own_d2_162 ?_
      refine own_iload K own_d2_66 rfl ?_
      refine own_iload K own_d2_68 rfl ?_
      refine own_icmpge K own_d2_70 (fun _ => ?_) (fun q => absurd (by decide) q)
      refine own_aloadN K own_d2_165 rfl rfl ?_
      refine own_getfield K own_d2_166 (host := "") (Or.inl (own_w38 hw)) Via.refl H20 (j := 0) rfl (q := 0) rfl ?_
      refine own_iload K own_d2_169 rfl ?_
      refine own_dloadN K own_d2_171 rfl ?_
      refine own_dastore K own_d2_172 H20 (i := 0) rfl (q := 2) (by decide) (own_le rfl) ?_
      intro h21 H22
      replace H22 : own_H Z h21 (own_DP a (.ref ta) (.ref ca) (.int (3 : Int32)) :: os) ((ta, .double, "[D", ((.double (FP.i2d (za j2))) :: (.double (FP.i2d (za j1))) :: (.double (FP.i2d (za j3))) :: (.double (FP.i2d (za j3))) :: x4 :: x5 :: tl)) :: (ca, (.object "com/example/slotwise/slotwise/Simulation$Connection"), "[Lcom/example/slotwise/slotwise/Simulation$Connection;", ((.ref (aa j2)) :: (.ref (aa j1)) :: (.ref (aa j2)) :: .null :: y4 :: y5 :: tk)) :: as) := H22
      refine own_aloadN K own_d2_173 rfl rfl ?_
      refine own_getfield K own_d2_174 (host := "") (Or.inl (own_w41 hw)) Via.refl H22 (j := 0) rfl (q := 1) rfl ?_
      refine own_iload K own_d2_177 rfl ?_
      refine own_aload K own_d2_179 rfl rfl ?_
      refine own_aastoreR K own_d2_181 H22 (i := 1) rfl (by decide) (Ins.self (own_atC H22 ho hj3)) (q := 2) (by decide) (own_le rfl) ?_
      intro h23 H24
      replace H24 : own_H Z h23 (own_DP a (.ref ta) (.ref ca) (.int (3 : Int32)) :: os) ((ta, .double, "[D", ((.double (FP.i2d (za j2))) :: (.double (FP.i2d (za j1))) :: (.double (FP.i2d (za j3))) :: (.double (FP.i2d (za j3))) :: x4 :: x5 :: tl)) :: (ca, (.object "com/example/slotwise/slotwise/Simulation$Connection"), "[Lcom/example/slotwise/slotwise/Simulation$Connection;", ((.ref (aa j2)) :: (.ref (aa j1)) :: (.ref (aa j3)) :: .null :: y4 :: y5 :: tk)) :: as) := H24
      refine own_aloadN K own_d2_182 rfl rfl ?_
      exact own_retA K rfl rfl own_d2_183 (by decide) (by decide) (⟨rfl, j2, j1, j3, (List.perm_middle (l₁ := [j2]) (a := j1) (l₂ := [j3])).trans (List.Perm.cons j1 (List.Perm.cons j2 (List.Perm.cons j3 (List.Perm.nil)))), by omega, by omega, by omega, hj2, hj1, hj3, H24⟩)
    · rw [own_gtd] at gb0
      refine own_goto K own_d2_127 ?_
      refine own_aloadN K own_d2_165 rfl rfl ?_
      refine own_getfield K own_d2_166 (host := "") (Or.inl (own_w38 hw)) Via.refl H4 (j := 0) rfl (q := 0) rfl ?_
      refine own_iload K own_d2_169 rfl ?_
      refine own_dloadN K own_d2_171 rfl ?_
      refine own_dastore K own_d2_172 H4 (i := 0) rfl (q := 0) (by decide) (own_le rfl) ?_
      intro h25 H26
      replace H26 : own_H Z h25 (own_DP a (.ref ta) (.ref ca) (.int (3 : Int32)) :: os) ((ta, .double, "[D", ((.double (FP.i2d (za j3))) :: (.double (FP.i2d (za j1))) :: (.double (FP.i2d (za j2))) :: (.double (FP.i2d (za j3))) :: x4 :: x5 :: tl)) :: (ca, (.object "com/example/slotwise/slotwise/Simulation$Connection"), "[Lcom/example/slotwise/slotwise/Simulation$Connection;", ((.ref (aa j0)) :: (.ref (aa j1)) :: (.ref (aa j2)) :: .null :: y4 :: y5 :: tk)) :: as) := H26
      refine own_aloadN K own_d2_173 rfl rfl ?_
      refine own_getfield K own_d2_174 (host := "") (Or.inl (own_w41 hw)) Via.refl H26 (j := 0) rfl (q := 1) rfl ?_
      refine own_iload K own_d2_177 rfl ?_
      refine own_aload K own_d2_179 rfl rfl ?_
      refine own_aastoreR K own_d2_181 H26 (i := 1) rfl (by decide) (Ins.self (own_atC H26 ho hj3)) (q := 0) (by decide) (own_le rfl) ?_
      intro h27 H28
      replace H28 : own_H Z h27 (own_DP a (.ref ta) (.ref ca) (.int (3 : Int32)) :: os) ((ta, .double, "[D", ((.double (FP.i2d (za j3))) :: (.double (FP.i2d (za j1))) :: (.double (FP.i2d (za j2))) :: (.double (FP.i2d (za j3))) :: x4 :: x5 :: tl)) :: (ca, (.object "com/example/slotwise/slotwise/Simulation$Connection"), "[Lcom/example/slotwise/slotwise/Simulation$Connection;", ((.ref (aa j3)) :: (.ref (aa j1)) :: (.ref (aa j2)) :: .null :: y4 :: y5 :: tk)) :: as) := H28
      refine own_aloadN K own_d2_182 rfl rfl ?_
      exact own_retA K rfl rfl own_d2_183 (by decide) (by decide) (⟨rfl, j3, j1, j2, (List.perm_middle (l₁ := [j3]) (a := j1) (l₂ := [j2])).trans (List.Perm.cons j1 ((List.perm_middle (l₁ := [j3]) (a := j2) (l₂ := [])).trans (List.Perm.cons j2 (List.Perm.cons j3 (List.Perm.nil))))), by omega, by omega, by omega, hj3, hj1, hj2, H28⟩)
set_option maxRecDepth 65536 in
set_option maxHeartbeats 40000000 in
theorem own_poll3_ef (m : MethodId) (x0 : Addr) : entryFrame m #[(.ref x0)] 8 = mkF m 0 #[.val (.ref x0), .unset, .unset, .unset, .unset, .unset, .unset, .unset] [] := by first | (simp [entryFrame, mkF, argsToLocals, Value.category]; done) | rfl
set_option maxRecDepth 65536 in
set_option maxHeartbeats 40000000 in
theorem own_poll3 {l : Launch} {Z : State} {a0 : Array Value} (hw : own_Z Z a0) {h : Heap} {os : List own_O} {as : List own_A} {aa : Nat → Addr} {za : Nat → Int32} {a ta ca : Addr} {tl tk : List Value} {j0 j1 j2 : Nat} {x3 x4 x5 y3 y4 y5 : Value} (H : own_H Z h (own_DP a (.ref ta) (.ref ca) (.int (3 : Int32)) :: os) ((ta, .double, "[D", ((.double (FP.i2d (za j0))) :: (.double (FP.i2d (za j1))) :: (.double (FP.i2d (za j2))) :: x3 :: x4 :: x5 :: tl)) :: (ca, (.object "com/example/slotwise/slotwise/Simulation$Connection"), "[Lcom/example/slotwise/slotwise/Simulation$Connection;", ((.ref (aa j0)) :: (.ref (aa j1)) :: (.ref (aa j2)) :: y3 :: y4 :: y5 :: tk)) :: as)) (ho : ∀ j, j < 6 → ∃ i : Nat, os[i]? = some (own_c aa za j)) (hj0 : j0 < 6) (hj1 : j1 < 6) (hj2 : j2 < 6) (p0 : (za j0).toInt ≤ (za j1).toInt) (p1 : (za j0).toInt ≤ (za j2).toInt) : own_Met false l Z (⟨"com/example/slotwise/slotwise/Departures", "poll", "()Lcom/example/slotwise/slotwise/Simulation$Connection;"⟩ : MethodName) prog_10_method_5_code 8 (some (.object "com/example/slotwise/slotwise/Simulation$Connection")) [] ({ frames := 0, cells := 0, slots := 0, locals := 0 } : Room) #[(.ref a)] h (fun v h' => v = some (.ref (aa j0)) ∧ ∃ k0 k1, List.Perm [k0, k1] [j1, j2] ∧ (za k0).toInt ≤ (za k1).toInt ∧ (za j0).toInt ≤ (za k0).toInt ∧ k0 < 6 ∧ k1 < 6 ∧ own_H Z h' (own_DP a (.ref ta) (.ref ca) (.int (2 : Int32)) :: os) ((ta, .double, "[D", ((.double (FP.i2d (za k0))) :: (.double (FP.i2d (za k1))) :: (.double (FP.i2d (za j2))) :: x3 :: x4 :: x5 :: tl)) :: (ca, (.object "com/example/slotwise/slotwise/Simulation$Connection"), "[Lcom/example/slotwise/slotwise/Simulation$Connection;", ((.ref (aa k0)) :: (.ref (aa k1)) :: .null :: y3 :: y4 :: y5 :: tk)) :: as)) := by
  refine own_met (by first | exact plainFor_of_name (by decide +kernel) | decide +kernel) ?_
  intro p e s m below meth c K
  refine own_cast (own_poll3_ef m _) ?_
  refine own_aloadN K own_d2_0 rfl rfl ?_
  refine own_getfield K own_d2_1 (host := "") (Or.inl (own_w41 hw)) Via.refl H (j := 0) rfl (q := 1) rfl ?_
  refine own_iconst K own_d2_4 (v := (0 : Int32)) rfl ?_
  refine own_aaload K own_d2_5 H (i := 1) rfl rfl (q := 0) (by decide) (rfl) ?_
  refine own_astoreN K own_d2_6 rfl (Ls' := #[.val (.ref a), .val (.ref (aa j0)), .unset, .unset, .unset, .unset, .unset, .unset]) rfl ?_
  refine own_aloadN K own_d2_7 rfl rfl ?_
  refine own_dup K own_d2_8 rfl ?_
  refine own_getfield K own_d2_9 (host := "") (Or.inl (own_w48 hw)) Via.refl H (j := 0) rfl (q := 2) rfl ?_
  refine own_iconst K own_d2_12 (v := (1 : Int32)) rfl ?_
  refine own_isub K own_d2_13 ?_
  refine own_topI (x' := (2 : Int32)) (by decide) ?_
  refine own_putfield K own_d2_14 (host := "") (Or.inl (own_w48 hw)) Via.refl H (j := 0) rfl (q := 2) rfl (Or.inl (own_w49 hw)) (own_w31 hw) (ty := .int) (by decide +kernel) (rfl) rfl ?_
  intro h1 H2
  replace H2 : own_H Z h1 (own_DP a (.ref ta) (.ref ca) (.int (2 : Int32)) :: os) ((ta, .double, "[D", ((.double (FP.i2d (za j0))) :: (.double (FP.i2d (za j1))) :: (.double (FP.i2d (za j2))) :: x3 :: x4 :: x5 :: tl)) :: (ca, (.object "com/example/slotwise/slotwise/Simulation$Connection"), "[Lcom/example/slotwise/slotwise/Simulation$Connection;", ((.ref (aa j0)) :: (.ref (aa j1)) :: (.ref (aa j2)) :: y3 :: y4 :: y5 :: tk)) :: as) := H2
  refine own_aloadN K own_d2_17 rfl rfl ?_
  refine own_getfield K own_d2_18 (host := "") (Or.inl (own_w38 hw)) Via.refl H2 (j := 0) rfl (q := 0) rfl ?_
  refine own_aloadN K own_d2_21 rfl rfl ?_
  refine own_getfield K own_d2_22 (host := "") (Or.inl (own_w48 hw)) Via.refl H2 (j := 0) rfl (q := 2) rfl ?_
  refine own_daload K own_d2_25 H2 (i := 0) rfl (q := 2) (by decide) (rfl) ?_
  refine own_dstoreN K own_d2_26 (Ls' := #[.val (.ref a), .val (.ref (aa j0)), .val (.double (FP.i2d (za j2))), .second, .unset, .unset, .unset, .unset]) rfl ?_
  refine own_aloadN K own_d2_27 rfl rfl ?_
  refine own_getfield K own_d2_28 (host := "") (Or.inl (own_w41 hw)) Via.refl H2 (j := 0) rfl (q := 1) rfl ?_
  refine own_aloadN K own_d2_31 rfl rfl ?_
  refine own_getfield K own_d2_32 (host := "") (Or.inl (own_w48 hw)) Via.refl H2 (j := 0) rfl (q := 2) rfl ?_
  refine own_aaload K own_d2_35 H2 (i := 1) rfl rfl (q := 2) (by decide) (rfl) ?_
  refine own_astore K own_d2_36 rfl (Ls' := #[.val (.ref a), .val (.ref (aa j0)), .val (.double (FP.i2d (za j2))), .second, .val (.ref (aa j2)), .unset, .unset, .unset]) rfl ?_
  refine own_aloadN K own_d2_38 rfl rfl ?_
  refine own_getfield K own_d2_39 (host := "") (Or.inl (own_w41 hw)) Via.refl H2 (j := 0) rfl (q := 1) rfl ?_
  refine own_aloadN K own_d2_42 rfl rfl ?_
  refine own_getfield K own_d2_43 (host := "") (Or.inl (own_w48 hw)) Via.refl H2 (j := 0) rfl (q := 2) rfl ?_
  refine own_aconstNull K own_d2_46 ?_
  refine own_aastoreN K own_d2_47 H2 (i := 1) rfl (q := 2) (by decide) (own_le rfl) ?_
  intro h3 H4
  replace H4 : own_H Z h3 (own_DP a (.ref ta) (.ref ca) (.int (2 : Int32)) :: os) ((ta, .double, "[D", ((.double (FP.i2d (za j0))) :: (.double (FP.i2d (za j1))) :: (.double (FP.i2d (za j2))) :: x3 :: x4 :: x5 :: tl)) :: (ca, (.object "com/example/slotwise/slotwise/Simulation$Connection"), "[Lcom/example/slotwise/slotwise/Simulation$Connection;", ((.ref (aa j0)) :: (.ref (aa j1)) :: .null :: y3 :: y4 :: y5 :: tk)) :: as) := H4
  refine own_aloadN K own_d2_48 rfl rfl ?_
  refine own_getfield K own_d2_49 (host := "") (Or.inl (own_w48 hw)) Via.refl H4 (j := 0) rfl (q := 2) rfl ?_
  refine own_ifle K own_d2_52 (fun q => absurd q (by decide)) (fun _ => ?_)
  refine own_iconst K own_d2_55 (v := (0 : Int32)) rfl ?_
  refine own_istore K own_d2_56 (Ls' := #[.val (.ref a), .val (.ref (aa j0)), .val (.double (FP.i2d (za j2))), .second, .val (.ref (aa j2)), .val (.int (0 : Int32)), .unset, .unset]) rfl ?_
  refine own_aloadN K own_d2_58 rfl rfl ?_
  refine own_getfield K own_d2_59 (host := "") (Or.inl (own_w48 hw)) Via.refl H4 (j := 0) rfl (q := 2) rfl ?_
  refine own_iconst K own_d2_62 (v := (1 : Int32)) rfl ?_
  refine own_iushr K own_d2_63 ?_
  refine own_topI (x' := (1 : Int32)) (by decide) ?_
  refine own_istore K own_d2_64 (Ls' := #[.val (.ref a), .val (.ref (aa j0)), .val (.double (FP.i2d (za j2))), .second, .val (.ref (aa j2)), .val (.int (0 : Int32)), .val (.int (1 : Int32)), .unset]) rfl ?_
  refine own_iload K own_d2_66 rfl ?_
  refine own_iload K own_d2_68 rfl ?_
  refine own_icmpge K own_d2_70 (fun q => absurd q (by decide)) (fun _ => ?_)
  refine own_iconst K own_d2_73 (v := (2 : Int32)) rfl ?_
  refine own_iload K own_d2_74 rfl ?_
  refine own_imul K own_d2_76 ?_
  refine own_topI (x' := (0 : Int32)) (by decide) ?_
  refine own_iconst K own_d2_77 (v := (1 : Int32)) rfl ?_
  refine own_iadd K own_d2_78 ?_
  refine own_topI (x' := (1 : Int32)) (by decide) ?_
  refine own_istore K own_d2_79 (Ls' := #[.val (.ref a), .val (.ref (aa j0)), .val (.double (FP.i2d (za j2))), .second, .val (.ref (aa j2)), .val (.int (0 : Int32)), .val (.int (1 : Int32)), .val (.int (1 : Int32))]) rfl ?_
  refine own_iload K own_d2_81 rfl ?_
  refine own_iconst K own_d2_83 (v := (1 : Int32)) rfl ?_
  refine own_iadd K own_d2_84 ?_
  refine own_topI (x' := (2 : Int32)) (by decide) ?_
  refine own_aloadN K own_d2_85 rfl rfl ?_
  refine own_getfield K own_d2_86 (host := "") (Or.inl (own_w48 hw)) Via.refl H4 (j := 0) rfl (q := 2) rfl ?_
  refine own_icmpge K own_d2_89 (fun _ => ?_) (fun q => absurd (by decide) q)
  refine own_dloadN K own_d2_115 rfl ?_
  refine own_aloadN K own_d2_116 rfl rfl ?_
  refine own_getfield K own_d2_117 (host := "") (Or.inl (own_w38 hw)) Via.refl H4 (j := 0) rfl (q := 0) rfl ?_
  refine own_iload K own_d2_120 rfl ?_
  refine own_daload K own_d2_122 H4 (i := 0) rfl (q := 1) (by decide) (rfl) ?_
  refine own_dcmp K own_d2_123 ?_
  refine own_ifgt K own_d2_124 (fun gb0 => ?_) (fun gb0 => ?_)
  · rw [own_gtd] at gb0
    refine own_aloadN K own_d2_130 rfl rfl ?_
    refine own_getfield K own_d2_131 (host := "") (Or.inl (own_w38 hw)) Via.refl H4 (j := 0) rfl (q := 0) rfl ?_
    refine own_iload K own_d2_134 rfl ?_
    refine own_aloadN K own_d2_136 rfl rfl ?_
    refine own_getfield K own_d2_137 (host := "") (Or.inl (own_w38 hw)) Via.refl H4 (j := 0) rfl (q := 0) rfl ?_
    refine own_iload K own_d2_140 rfl ?_
    refine own_daload K own_d2_142 H4 (i := 0) rfl (q := 1) (by decide) (rfl) ?_
    refine own_dastore K own_d2_143 H4 (i := 0) rfl (q := 0) (by decide) (own_le rfl) ?_
    intro h5 H6
    replace H6 : own_H Z h5 (own_DP a (.ref ta) (.ref ca) (.int (2 : Int32)) :: os) ((ta, .double, "[D", ((.double (FP.i2d (za j1))) :: (.double (FP.i2d (za j1))) :: (.double (FP.i2d (za j2))) :: x3 :: x4 :: x5 :: tl)) :: (ca, (.object "com/example/slotwise/slotwise/Simulation$Connection"), "[Lcom/example/slotwise/slotwise/Simulation$Connection;", ((.ref (aa j0)) :: (.ref (aa j1)) :: .null :: y3 :: y4 :: y5 :: tk)) :: as) := H6
    refine own_aloadN K own_d2_144 rfl rfl ?_
    refine own_getfield K own_d2_145 (host := "") (Or.inl (own_w41 hw)) Via.refl H6 (j := 0) rfl (q := 1) rfl ?_
    refine own_iload K own_d2_148 rfl ?_
    refine own_aloadN K own_d2_150 rfl rfl ?_
    refine own_getfield K own_d2_151 (host := "") (Or.inl (own_w41 hw)) Via.refl H6 (j := 0) rfl (q := 1) rfl ?_
    refine own_iload K own_d2_154 rfl ?_
    refine own_aaload K own_d2_156 H6 (i := 1) rfl rfl (q := 1) (by decide) (rfl) ?_
    refine own_aastoreR K own_d2_157 H6 (i := 1) rfl (by decide) (Ins.self (own_atC H6 ho hj1)) (q := 0) (by decide) (own_le rfl) ?_
    intro h7 H8
    replace H8 : own_H Z h7 (own_DP a (.ref ta) (.ref ca) (.int (2 : Int32)) :: os) ((ta, .double, "[D", ((.double (FP.i2d (za j1))) :: (.double (FP.i2d (za j1))) :: (.double (FP.i2d (za j2))) :: x3 :: x4 :: x5 :: tl)) :: (ca, (.object "com/example/slotwise/slotwise/Simulation$Connection"), "[Lcom/example/slotwise/slotwise/Simulation$Connection;", ((.ref (aa j1)) :: (.ref (aa j1)) :: .null :: y3 :: y4 :: y5 :: tk)) :: as) := H8
    refine own_iload K own_d2_158 rfl ?_
    refine own_istore K own_d2_160 (Ls' := #[.val (.ref a), .val (.ref (aa j0)), .val (.double (FP.i2d (za j2))), .second, .val (.ref (aa j2)), .val (.int (1 : Int32)), .val (.int (1 : Int32)), .val (.int (1 : Int32))]) rfl ?_
    refine own_goto K own_d2_162 ?_
    refine own_iload K own_d2_66 rfl ?_
    refine own_iload K own_d2_68 rfl ?_
    refine own_icmpge K own_d2_70 (fun _ => ?_) (fun q => absurd (by decide) q)
    refine own_aloadN K own_d2_165 rfl rfl ?_
    refine own_getfield K own_d2_166 (host := "") (Or.inl (own_w38 hw)) Via.refl H8 (j := 0) rfl (q := 0) rfl ?_
    refine own_iload K own_d2_169 rfl ?_
    refine own_dloadN K own_d2_171 rfl ?_
    refine own_dastore K own_d2_172 H8 (i := 0) rfl (q := 1) (by decide) (own_le rfl) ?_
    intro h9 H10
    replace H10 : own_H Z h9 (own_DP a (.ref ta) (.ref ca) (.int (2 : Int32)) :: os) ((ta, .double, "[D", ((.double (FP.i2d (za j1))) :: (.double (FP.i2d (za j2))) :: (.double (FP.i2d (za j2))) :: x3 :: x4 :: x5 :: tl)) :: (ca, (.object "com/example/slotwise/slotwise/Simulation$Connection"), "[Lcom/example/slotwise/slotwise/Simulation$Connection;", ((.ref (aa j1)) :: (.ref (aa j1)) :: .null :: y3 :: y4 :: y5 :: tk)) :: as) := H10
    refine own_aloadN K own_d2_173 rfl rfl ?_
    refine own_getfield K own_d2_174 (host := "") (Or.inl (own_w41 hw)) Via.refl H10 (j := 0) rfl (q := 1) rfl ?_
    refine own_iload K own_d2_177 rfl ?_
    refine own_aload K own_d2_179 rfl rfl ?_
    refine own_aastoreR K own_d2_181 H10 (i := 1) rfl (by decide) (Ins.self (own_atC H10 ho hj2)) (q := 1) (by decide) (own_le rfl) ?_
    intro h11 H12
    replace H12 : own_H Z h11 (own_DP a (.ref ta) (.ref ca) (.int (2 : Int32)) :: os) ((ta, .double, "[D", ((.double (FP.i2d (za j1))) :: (.double (FP.i2d (za j2))) :: (.double (FP.i2d (za j2))) :: x3 :: x4 :: x5 :: tl)) :: (ca, (.object "com/example/slotwise/slotwise/Simulation$Connection"), "[Lcom/example/slotwise/slotwise/Simulation$Connection;", ((.ref (aa j1)) :: (.ref (aa j2)) :: .null :: y3 :: y4 :: y5 :: tk)) :: as) := H12
    refine own_aloadN K own_d2_182 rfl rfl ?_
    exact own_retA K rfl rfl own_d2_183 (by decide) (by decide) (⟨rfl, j1, j2, List.Perm.cons j1 (List.Perm.cons j2 (List.Perm.nil)), by omega, by omega, hj1, hj2, H12⟩)
  · rw [own_gtd] at gb0
    refine own_goto K own_d2_127 ?_
    refine own_aloadN K own_d2_165 rfl rfl ?_
    refine own_getfield K own_d2_166 (host := "") (Or.inl (own_w38 hw)) Via.refl H4 (j := 0) rfl (q := 0) rfl ?_
    refine own_iload K own_d2_169 rfl ?_
    refine own_dloadN K own_d2_171 rfl ?_
    refine own_dastore K own_d2_172 H4 (i := 0) rfl (q := 0) (by decide) (own_le rfl) ?_
    intro h13 H14
    replace H14 : own_H Z h13 (own_DP a (.ref ta) (.ref ca) (.int (2 : Int32)) :: os) ((ta, .double, "[D", ((.double (FP.i2d (za j2))) :: (.double (FP.i2d (za j1))) :: (.double (FP.i2d (za j2))) :: x3 :: x4 :: x5 :: tl)) :: (ca, (.object "com/example/slotwise/slotwise/Simulation$Connection"), "[Lcom/example/slotwise/slotwise/Simulation$Connection;", ((.ref (aa j0)) :: (.ref (aa j1)) :: .null :: y3 :: y4 :: y5 :: tk)) :: as) := H14
    refine own_aloadN K own_d2_173 rfl rfl ?_
    refine own_getfield K own_d2_174 (host := "") (Or.inl (own_w41 hw)) Via.refl H14 (j := 0) rfl (q := 1) rfl ?_
    refine own_iload K own_d2_177 rfl ?_
    refine own_aload K own_d2_179 rfl rfl ?_
    refine own_aastoreR K own_d2_181 H14 (i := 1) rfl (by decide) (Ins.self (own_atC H14 ho hj2)) (q := 0) (by decide) (own_le rfl) ?_
    intro h15 H16
    replace H16 : own_H Z h15 (own_DP a (.ref ta) (.ref ca) (.int (2 : Int32)) :: os) ((ta, .double, "[D", ((.double (FP.i2d (za j2))) :: (.double (FP.i2d (za j1))) :: (.double (FP.i2d (za j2))) :: x3 :: x4 :: x5 :: tl)) :: (ca, (.object "com/example/slotwise/slotwise/Simulation$Connection"), "[Lcom/example/slotwise/slotwise/Simulation$Connection;", ((.ref (aa j2)) :: (.ref (aa j1)) :: .null :: y3 :: y4 :: y5 :: tk)) :: as) := H16
    refine own_aloadN K own_d2_182 rfl rfl ?_
    exact own_retA K rfl rfl own_d2_183 (by decide) (by decide) (⟨rfl, j2, j1, (List.perm_middle (l₁ := [j2]) (a := j1) (l₂ := [])).trans (List.Perm.cons j1 (List.Perm.cons j2 (List.Perm.nil))), by omega, by omega, hj2, hj1, H16⟩)
set_option maxRecDepth 65536 in
set_option maxHeartbeats 40000000 in
theorem own_poll2_ef (m : MethodId) (x0 : Addr) : entryFrame m #[(.ref x0)] 8 = mkF m 0 #[.val (.ref x0), .unset, .unset, .unset, .unset, .unset, .unset, .unset] [] := by first | (simp [entryFrame, mkF, argsToLocals, Value.category]; done) | rfl
set_option maxRecDepth 65536 in
set_option maxHeartbeats 40000000 in
theorem own_poll2 {l : Launch} {Z : State} {a0 : Array Value} (hw : own_Z Z a0) {h : Heap} {os : List own_O} {as : List own_A} {aa : Nat → Addr} {za : Nat → Int32} {a ta ca : Addr} {tl tk : List Value} {j0 j1 : Nat} {x2 x3 x4 x5 y2 y3 y4 y5 : Value} (H : own_H Z h (own_DP a (.ref ta) (.ref ca) (.int (2 : Int32)) :: os) ((ta, .double, "[D", ((.double (FP.i2d (za j0))) :: (.double (FP.i2d (za j1))) :: x2 :: x3 :: x4 :: x5 :: tl)) :: (ca, (.object "com/example/slotwise/slotwise/Simulation$Connection"), "[Lcom/example/slotwise/slotwise/Simulation$Connection;", ((.ref (aa j0)) :: (.ref (aa j1)) :: y2 :: y3 :: y4 :: y5 :: tk)) :: as)) (ho : ∀ j, j < 6 → ∃ i : Nat, os[i]? = some (own_c aa za j)) (hj0 : j0 < 6) (hj1 : j1 < 6) (p0 : (za j0).toInt ≤ (za j1).toInt) : own_Met false l Z (⟨"com/example/slotwise/slotwise/Departures", "poll", "()Lcom/example/slotwise/slotwise/Simulation$Connection;"⟩ : MethodName) prog_10_method_5_code 8 (some (.object "com/example/slotwise/slotwise/Simulation$Connection")) [] ({ frames := 0, cells := 0, slots := 0, locals := 0 } : Room) #[(.ref a)] h (fun v h' => v = some (.ref (aa j0)) ∧ ∃ k0, List.Perm [k0] [j1] ∧ (za j0).toInt ≤ (za k0).toInt ∧ k0 < 6 ∧ own_H Z h' (own_DP a (.ref ta) (.ref ca) (.int (1 : Int32)) :: os) ((ta, .double, "[D", ((.double (FP.i2d (za k0))) :: (.double (FP.i2d (za j1))) :: x2 :: x3 :: x4 :: x5 :: tl)) :: (ca, (.object "com/example/slotwise/slotwise/Simulation$Connection"), "[Lcom/example/slotwise/slotwise/Simulation$Connection;", ((.ref (aa k0)) :: .null :: y2 :: y3 :: y4 :: y5 :: tk)) :: as)) := by
  refine own_met (by first | exact plainFor_of_name (by decide +kernel) | decide +kernel) ?_
  intro p e s m below meth c K
  refine own_cast (own_poll2_ef m _) ?_
  refine own_aloadN K own_d2_0 rfl rfl ?_
  refine own_getfield K own_d2_1 (host := "") (Or.inl (own_w41 hw)) Via.refl H (j := 0) rfl (q := 1) rfl ?_
  refine own_iconst K own_d2_4 (v := (0 : Int32)) rfl ?_
  refine own_aaload K own_d2_5 H (i := 1) rfl rfl (q := 0) (by decide) (rfl) ?_
  refine own_astoreN K own_d2_6 rfl (Ls' := #[.val (.ref a), .val (.ref (aa j0)), .unset, .unset, .unset, .unset, .unset, .unset]) rfl ?_
  refine own_aloadN K own_d2_7 rfl rfl ?_
  refine own_dup K own_d2_8 rfl ?_
  refine own_getfield K own_d2_9 (host := "") (Or.inl (own_w48 hw)) Via.refl H (j := 0) rfl (q := 2) rfl ?_
  refine own_iconst K own_d2_12 (v := (1 : Int32)) rfl ?_
  refine own_isub K own_d2_13 ?_
  refine own_topI (x' := (1 : Int32)) (by decide) ?_
  refine own_putfield K own_d2_14 (host := "") (Or.inl (own_w48 hw)) Via.refl H (j := 0) rfl (q := 2) rfl (Or.inl (own_w49 hw)) (own_w31 hw) (ty := .int) (by decide +kernel) (rfl) rfl ?_
  intro h1 H2
  replace H2 : own_H Z h1 (own_DP a (.ref ta) (.ref ca) (.int (1 : Int32)) :: os) ((ta, .double, "[D", ((.double (FP.i2d (za j0))) :: (.double (FP.i2d (za j1))) :: x2 :: x3 :: x4 :: x5 :: tl)) :: (ca, (.object "com/example/slotwise/slotwise/Simulation$Connection"), "[Lcom/example/slotwise/slotwise/Simulation$Connection;", ((.ref (aa j0)) :: (.ref (aa j1)) :: y2 :: y3 :: y4 :: y5 :: tk)) :: as) := H2
  refine own_aloadN K own_d2_17 rfl rfl ?_
  refine own_getfield K own_d2_18 (host := "") (Or.inl (own_w38 hw)) Via.refl H2 (j := 0) rfl (q := 0) rfl ?_
  refine own_aloadN K own_d2_21 rfl rfl ?_
  refine own_getfield K own_d2_22 (host := "") (Or.inl (own_w48 hw)) Via.refl H2 (j := 0) rfl (q := 2) rfl ?_
  refine own_daload K own_d2_25 H2 (i := 0) rfl (q := 1) (by decide) (rfl) ?_
  refine own_dstoreN K own_d2_26 (Ls' := #[.val (.ref a), .val (.ref (aa j0)), .val (.double (FP.i2d (za j1))), .second, .unset, .unset, .unset, .unset]) rfl ?_
  refine own_aloadN K own_d2_27 rfl rfl ?_
  refine own_getfield K own_d2_28 (host := "") (Or.inl (own_w41 hw)) Via.refl H2 (j := 0) rfl (q := 1) rfl ?_
  refine own_aloadN K own_d2_31 rfl rfl ?_
  refine own_getfield K own_d2_32 (host := "") (Or.inl (own_w48 hw)) Via.refl H2 (j := 0) rfl (q := 2) rfl ?_
  refine own_aaload K own_d2_35 H2 (i := 1) rfl rfl (q := 1) (by decide) (rfl) ?_
  refine own_astore K own_d2_36 rfl (Ls' := #[.val (.ref a), .val (.ref (aa j0)), .val (.double (FP.i2d (za j1))), .second, .val (.ref (aa j1)), .unset, .unset, .unset]) rfl ?_
  refine own_aloadN K own_d2_38 rfl rfl ?_
  refine own_getfield K own_d2_39 (host := "") (Or.inl (own_w41 hw)) Via.refl H2 (j := 0) rfl (q := 1) rfl ?_
  refine own_aloadN K own_d2_42 rfl rfl ?_
  refine own_getfield K own_d2_43 (host := "") (Or.inl (own_w48 hw)) Via.refl H2 (j := 0) rfl (q := 2) rfl ?_
  refine own_aconstNull K own_d2_46 ?_
  refine own_aastoreN K own_d2_47 H2 (i := 1) rfl (q := 1) (by decide) (own_le rfl) ?_
  intro h3 H4
  replace H4 : own_H Z h3 (own_DP a (.ref ta) (.ref ca) (.int (1 : Int32)) :: os) ((ta, .double, "[D", ((.double (FP.i2d (za j0))) :: (.double (FP.i2d (za j1))) :: x2 :: x3 :: x4 :: x5 :: tl)) :: (ca, (.object "com/example/slotwise/slotwise/Simulation$Connection"), "[Lcom/example/slotwise/slotwise/Simulation$Connection;", ((.ref (aa j0)) :: .null :: y2 :: y3 :: y4 :: y5 :: tk)) :: as) := H4
  refine own_aloadN K own_d2_48 rfl rfl ?_
  refine own_getfield K own_d2_49 (host := "") (Or.inl (own_w48 hw)) Via.refl H4 (j := 0) rfl (q := 2) rfl ?_
  refine own_ifle K own_d2_52 (fun q => absurd q (by decide)) (fun _ => ?_)
  refine own_iconst K own_d2_55 (v := (0 : Int32)) rfl ?_
  refine own_istore K own_d2_56 (Ls' := #[.val (.ref a), .val (.ref (aa j0)), .val (.double (FP.i2d (za j1))), .second, .val (.ref (aa j1)), .val (.int (0 : Int32)), .unset, .unset]) rfl ?_
  refine own_aloadN K own_d2_58 rfl rfl ?_
  refine own_getfield K own_d2_59 (host := "") (Or.inl (own_w48 hw)) Via.refl H4 (j := 0) rfl (q := 2) rfl ?_
  refine own_iconst K own_d2_62 (v := (1 : Int32)) rfl ?_
  refine own_iushr K own_d2_63 ?_
  refine own_topI (x' := (0 : Int32)) (by decide) ?_
  refine own_istore K own_d2_64 (Ls' := #[.val (.ref a), .val (.ref (aa j0)), .val (.double (FP.i2d (za j1))), .second, .val (.ref (aa j1)), .val (.int (0 : Int32)), .val (.int (0 : Int32)), .unset]) rfl ?_
  refine own_iload K own_d2_66 rfl ?_
  refine own_iload K own_d2_68 rfl ?_
  refine own_icmpge K own_d2_70 (fun _ => ?_) (fun q => absurd (by decide) q)
  refine own_aloadN K own_d2_165 rfl rfl ?_
  refine own_getfield K own_d2_166 (host := "") (Or.inl (own_w38 hw)) Via.refl H4 (j := 0) rfl (q := 0) rfl ?_
  refine own_iload K own_d2_169 rfl ?_
  refine own_dloadN K own_d2_171 rfl ?_
  refine own_dastore K own_d2_172 H4 (i := 0) rfl (q := 0) (by decide) (own_le rfl) ?_
  intro h5 H6
  replace H6 : own_H Z h5 (own_DP a (.ref ta) (.ref ca) (.int (1 : Int32)) :: os) ((ta, .double, "[D", ((.double (FP.i2d (za j1))) :: (.double (FP.i2d (za j1))) :: x2 :: x3 :: x4 :: x5 :: tl)) :: (ca, (.object "com/example/slotwise/slotwise/Simulation$Connection"), "[Lcom/example/slotwise/slotwise/Simulation$Connection;", ((.ref (aa j0)) :: .null :: y2 :: y3 :: y4 :: y5 :: tk)) :: as) := H6
  refine own_aloadN K own_d2_173 rfl rfl ?_
  refine own_getfield K own_d2_174 (host := "") (Or.inl (own_w41 hw)) Via.refl H6 (j := 0) rfl (q := 1) rfl ?_
  refine own_iload K own_d2_177 rfl ?_
  refine own_aload K own_d2_179 rfl rfl ?_
  refine own_aastoreR K own_d2_181 H6 (i := 1) rfl (by decide) (Ins.self (own_atC H6 ho hj1)) (q := 0) (by decide) (own_le rfl) ?_
  intro h7 H8
  replace H8 : own_H Z h7 (own_DP a (.ref ta) (.ref ca) (.int (1 : Int32)) :: os) ((ta, .double, "[D", ((.double (FP.i2d (za j1))) :: (.double (FP.i2d (za j1))) :: x2 :: x3 :: x4 :: x5 :: tl)) :: (ca, (.object "com/example/slotwise/slotwise/Simulation$Connection"), "[Lcom/example/slotwise/slotwise/Simulation$Connection;", ((.ref (aa j1)) :: .null :: y2 :: y3 :: y4 :: y5 :: tk)) :: as) := H8
  refine own_aloadN K own_d2_182 rfl rfl ?_
  exact own_retA K rfl rfl own_d2_183 (by decide) (by decide) (⟨rfl, j1, List.Perm.cons j1 (List.Perm.nil), by omega, hj1, H8⟩)
set_option maxRecDepth 65536 in
set_option maxHeartbeats 40000000 in
theorem own_poll1_ef (m : MethodId) (x0 : Addr) : entryFrame m #[(.ref x0)] 8 = mkF m 0 #[.val (.ref x0), .unset, .unset, .unset, .unset, .unset, .unset, .unset] [] := by first | (simp [entryFrame, mkF, argsToLocals, Value.category]; done) | rfl
set_option maxRecDepth 65536 in
set_option maxHeartbeats 40000000 in
theorem own_poll1 {l : Launch} {Z : State} {a0 : Array Value} (hw : own_Z Z a0) {h : Heap} {os : List own_O} {as : List own_A} {aa : Nat → Addr} {za : Nat → Int32} {a ta ca : Addr} {tl tk : List Value} {j0 : Nat} {x1 x2 x3 x4 x5 y1 y2 y3 y4 y5 : Value} (H : own_H Z h (own_DP a (.ref ta) (.ref ca) (.int (1 : Int32)) :: os) ((ta, .double, "[D", ((.double (FP.i2d (za j0))) :: x1 :: x2 :: x3 :: x4 :: x5 :: tl)) :: (ca, (.object "com/example/slotwise/slotwise/Simulation$Connection"), "[Lcom/example/slotwise/slotwise/Simulation$Connection;", ((.ref (aa j0)) :: y1 :: y2 :: y3 :: y4 :: y5 :: tk)) :: as)) (ho : ∀ j, j < 6 → ∃ i : Nat, os[i]? = some (own_c aa za j)) (hj0 : j0 < 6) : own_Met false l Z (⟨"com/example/slotwise/slotwise/Departures", "poll", "()Lcom/example/slotwise/slotwise/Simulation$Connection;"⟩ : MethodName) prog_10_method_5_code 8 (some (.object "com/example/slotwise/slotwise/Simulation$Connection")) [] ({ frames := 0, cells := 0, slots := 0, locals := 0 } : Room) #[(.ref a)] h (fun v h' => v = some (.ref (aa j0)) ∧ own_H Z h' (own_DP a (.ref ta) (.ref ca) (.int (0 : Int32)) :: os) ((ta, .double, "[D", ((.double (FP.i2d (za j0))) :: x1 :: x2 :: x3 :: x4 :: x5 :: tl)) :: (ca, (.object "com/example/slotwise/slotwise/Simulation$Connection"), "[Lcom/example/slotwise/slotwise/Simulation$Connection;", (.null :: y1 :: y2 :: y3 :: y4 :: y5 :: tk)) :: as)) := by
  refine own_met (by first | exact plainFor_of_name (by decide +kernel) | decide +kernel) ?_
  intro p e s m below meth c K
  refine own_cast (own_poll1_ef m _) ?_
  refine own_aloadN K own_d2_0 rfl rfl ?_
  refine own_getfield K own_d2_1 (host := "") (Or.inl (own_w41 hw)) Via.refl H (j := 0) rfl (q := 1) rfl ?_
  refine own_iconst K own_d2_4 (v := (0 : Int32)) rfl ?_
  refine own_aaload K own_d2_5 H (i := 1) rfl rfl (q := 0) (by decide) (rfl) ?_
  refine own_astoreN K own_d2_6 rfl (Ls' := #[.val (.ref a), .val (.ref (aa j0)), .unset, .unset, .unset, .unset, .unset, .unset]) rfl ?_
  refine own_aloadN K own_d2_7 rfl rfl ?_
  refine own_dup K own_d2_8 rfl ?_
  refine own_getfield K own_d2_9 (host := "") (Or.inl (own_w48 hw)) Via.refl H (j := 0) rfl (q := 2) rfl ?_
  refine own_iconst K own_d2_12 (v := (1 : Int32)) rfl ?_
  refine own_isub K own_d2_13 ?_
  refine own_topI (x' := (0 : Int32)) (by decide) ?_
  refine own_putfield K own_d2_14 (host := "") (Or.inl (own_w48 hw)) Via.refl H (j := 0) rfl (q := 2) rfl (Or.inl (own_w49 hw)) (own_w31 hw) (ty := .int) (by decide +kernel) (rfl) rfl ?_
  intro h1 H2
  replace H2 : own_H Z h1 (own_DP a (.ref ta) (.ref ca) (.int (0 : Int32)) :: os) ((ta, .double, "[D", ((.double (FP.i2d (za j0))) :: x1 :: x2 :: x3 :: x4 :: x5 :: tl)) :: (ca, (.object "com/example/slotwise/slotwise/Simulation$Connection"), "[Lcom/example/slotwise/slotwise/Simulation$Connection;", ((.ref (aa j0)) :: y1 :: y2 :: y3 :: y4 :: y5 :: tk)) :: as) := H2
  refine own_aloadN K own_d2_17 rfl rfl ?_
  refine own_getfield K own_d2_18 (host := "") (Or.inl (own_w38 hw)) Via.refl H2 (j := 0) rfl (q := 0) rfl ?_
  refine own_aloadN K own_d2_21 rfl rfl ?_
  refine own_getfield K own_d2_22 (host := "") (Or.inl (own_w48 hw)) Via.refl H2 (j := 0) rfl (q := 2) rfl ?_
  refine own_daload K own_d2_25 H2 (i := 0) rfl (q := 0) (by decide) (rfl) ?_
  refine own_dstoreN K own_d2_26 (Ls' := #[.val (.ref a), .val (.ref (aa j0)), .val (.double (FP.i2d (za j0))), .second, .unset, .unset, .unset, .unset]) rfl ?_
  refine own_aloadN K own_d2_27 rfl rfl ?_
  refine own_getfield K own_d2_28 (host := "") (Or.inl (own_w41 hw)) Via.refl H2 (j := 0) rfl (q := 1) rfl ?_
  refine own_aloadN K own_d2_31 rfl rfl ?_
  refine own_getfield K own_d2_32 (host := "") (Or.inl (own_w48 hw)) Via.refl H2 (j := 0) rfl (q := 2) rfl ?_
  refine own_aaload K own_d2_35 H2 (i := 1) rfl rfl (q := 0) (by decide) (rfl) ?_
  refine own_astore K own_d2_36 rfl (Ls' := #[.val (.ref a), .val (.ref (aa j0)), .val (.double (FP.i2d (za j0))), .second, .val (.ref (aa j0)), .unset, .unset, .unset]) rfl ?_
  refine own_aloadN K own_d2_38 rfl rfl ?_
  refine own_getfield K own_d2_39 (host := "") (Or.inl (own_w41 hw)) Via.refl H2 (j := 0) rfl (q := 1) rfl ?_
  refine own_aloadN K own_d2_42 rfl rfl ?_
  refine own_getfield K own_d2_43 (host := "") (Or.inl (own_w48 hw)) Via.refl H2 (j := 0) rfl (q := 2) rfl ?_
  refine own_aconstNull K own_d2_46 ?_
  refine own_aastoreN K own_d2_47 H2 (i := 1) rfl (q := 0) (by decide) (own_le rfl) ?_
  intro h3 H4
  replace H4 : own_H Z h3 (own_DP a (.ref ta) (.ref ca) (.int (0 : Int32)) :: os) ((ta, .double, "[D", ((.double (FP.i2d (za j0))) :: x1 :: x2 :: x3 :: x4 :: x5 :: tl)) :: (ca, (.object "com/example/slotwise/slotwise/Simulation$Connection"), "[Lcom/example/slotwise/slotwise/Simulation$Connection;", (.null :: y1 :: y2 :: y3 :: y4 :: y5 :: tk)) :: as) := H4
  refine own_aloadN K own_d2_48 rfl rfl ?_
  refine own_getfield K own_d2_49 (host := "") (Or.inl (own_w48 hw)) Via.refl H4 (j := 0) rfl (q := 2) rfl ?_
  refine own_ifle K own_d2_52 (fun _ => ?_) (fun q => absurd (by decide) q)
  refine own_aloadN K own_d2_182 rfl rfl ?_
  exact own_retA K rfl rfl own_d2_183 (by decide) (by decide) (⟨rfl, H4⟩)
theorem own_lt6 {j : Nat} (h : j < 6) : j = 0 ∨ j = 1 ∨ j = 2 ∨ j = 3 ∨ j = 4 ∨ j = 5 := by omega
theorem own_oN {q : Nat} (h : q < 6) : (Int32.ofNat q).toInt = (q : Int) := Int32.toInt_ofNat_of_lt (by omega)
theorem own_vz {za : Nat → Int32} {q : Nat} (h : q < 6) : [Value.int (za 0), Value.int (za 1), Value.int (za 2), Value.int (za 3), Value.int (za 4), Value.int (za 5)][q]? = some (.int (za q)) := by
  rcases own_lt6 h with rfl | rfl | rfl | rfl | rfl | rfl <;> rfl
theorem own_ai {aa : Nat → Addr} {i j : Nat} (hne : ∀ i j, i < 6 → j < 6 → i ≠ j → aa i ≠ aa j) (hj : j < 6) (hi : i < 6) (e : Value.ref (aa j) = Value.ref (aa i)) : j = i := by
  have e' : aa j = aa i := by injection e
  exact Classical.byContradiction fun q => hne j i hj hi q e'
def own_bit (q : Nat) : Int32 := (1 : Int32) <<< ((Int32.ofNat q) &&& 31)
theorem own_mask {q1 q2 q3 q4 q5 q6 : Nat} (h : List.Perm [q1, q2, q3, q4, q5, q6] [5, 4, 3, 2, 1, 0]) : own_bit q1 ||| own_bit q2 ||| own_bit q3 ||| own_bit q4 ||| own_bit q5 ||| own_bit q6 = 63 := by
  have e := List.Perm.foldr_eq' (f := fun (q : Nat) (b : Int32) => own_bit q ||| b) h (fun x _ y _ z => by show own_bit y ||| (own_bit x ||| z) = own_bit x ||| (own_bit y ||| z); rw [← Int32.or_assoc, ← Int32.or_assoc, Int32.or_comm (own_bit x)]) (0 : Int32)
  simp only [List.foldr_cons, List.foldr_nil] at e
  rw [Int32.or_assoc, Int32.or_assoc, Int32.or_assoc, Int32.or_assoc]
  rw [Int32.or_zero] at e
  exact e.trans (by decide)
set_option maxRecDepth 65536 in
set_option maxHeartbeats 40000000 in
theorem own_rec_ef (m : MethodId) (x0 : Addr) : entryFrame m #[(.ref x0)] 1 = mkF m 0 #[.val (.ref x0)] [] := by first | (simp [entryFrame, mkF, argsToLocals, Value.category]; done) | rfl
set_option maxRecDepth 65536 in
set_option maxHeartbeats 40000000 in
theorem own_rec {l : Launch} {Z : State} {a0 : Array Value} (hw : own_Z Z a0) {h : Heap} {a : Addr} : own_Met false l Z (⟨"java/lang/Record", "<init>", "()V"⟩ : MethodName) jdk_30_method_1_code 1 none [] ({ frames := 1, cells := 0, slots := 0, locals := 12 } : Room) #[(.ref a)] h (fun v h' => v = none ∧ h = h') := by
  refine own_met (by first | exact plainFor_of_name (by decide +kernel) | decide +kernel) ?_
  intro p e s m below meth c K
  refine own_cast (own_rec_ef m _) ?_
  refine own_aloadN K own_d3_0 rfl rfl ?_
  refine own_initO K own_d3_1 (own_w18 hw) (own_w19 hw) (own_w20 hw) rfl (by decide) (W := 0) (Nat.le_of_eq rfl) (by decide) ?_
  exact own_retV K own_d3_4 (by decide) (by decide) (⟨rfl, rfl⟩)
set_option maxRecDepth 65536 in
set_option maxHeartbeats 40000000 in
theorem own_ni_ef (m : MethodId) (x0 : Addr) (x1 : UInt64) (x3 : Int32) (x4 : Int32) : entryFrame m #[(.ref x0), (.double x1), .null, (.int x3), (.int x4)] 6 = mkF m 0 #[.val (.ref x0), .val (.double x1), .second, .val .null, .val (.int x3), .val (.int x4)] [] := by first | (simp [entryFrame, mkF, argsToLocals, Value.category]; done) | rfl
set_option maxRecDepth 65536 in
set_option maxHeartbeats 40000000 in
theorem own_ni {l : Launch} {Z : State} {a0 : Array Value} (hw : own_Z Z a0) {h : Heap} {os : List own_O} {as : List own_A} {a : Addr} {d : UInt64} (H : own_H Z h (own_CN a (.double (0 : UInt64)) .null (.int (0 : Int32)) (.int (0 : Int32)) :: os) as) : own_Met false l Z (⟨"com/example/slotwise/slotwise/Simulation$Connection", "<init>", "(DLcom/example/slotwise/slotwise/Route;II)V"⟩ : MethodName) prog_33_method_1_code 6 none [] ({ frames := 2, cells := 0, slots := 0, locals := 24 } : Room) #[(.ref a), (.double d), .null, (.int (0 : Int32)), (.int (1 : Int32))] h (fun v h' => v = none ∧ own_H Z h' (own_CN a (.double d) .null (.int (0 : Int32)) (.int (1 : Int32)) :: os) as) := by
  refine own_met (by first | exact plainFor_of_name (by decide +kernel) | decide +kernel) ?_
  intro p e s m below meth c K
  refine own_cast (own_ni_ef m _ _ _ _) ?_
  refine own_aloadN K own_d4_0 rfl rfl ?_
  refine own_special K own_d4_1 rfl (own_w13 hw) (own_w14 hw) (own_w16 hw) (own_w17 hw) (a := a) (argsL := []) (rest := []) (own_rec hw) own_pd1 rfl rfl rfl (by decide) (W := 0) (Nat.le_of_eq rfl) (by decide) (by decide) (by decide) (by decide) ?_
  intro v3 h1 q2
  obtain ⟨rfl, rfl⟩ := q2
  refine own_aloadN K own_d4_4 rfl rfl ?_
  refine own_dloadN K own_d4_5 rfl ?_
  refine own_putfield K own_d4_6 (host := "") (Or.inl (own_w21 hw)) Via.refl H (j := 0) rfl (q := 0) rfl (Or.inr ⟨(own_w22 hw), rfl, rfl⟩) (own_w8 hw) (ty := .double) (by decide +kernel) (rfl) rfl ?_
  intro h4 H5
  replace H5 : own_H Z h4 (own_CN a (.double d) .null (.int (0 : Int32)) (.int (0 : Int32)) :: os) (as) := H5
  refine own_aloadN K own_d4_9 rfl rfl ?_
  refine own_aloadN K own_d4_10 rfl rfl ?_
  refine own_putfield K own_d4_11 (host := "") (Or.inl (own_w23 hw)) Via.refl H5 (j := 0) rfl (q := 1) rfl (Or.inr ⟨(own_w24 hw), rfl, rfl⟩) (own_w8 hw) (ty := (.object "com/example/slotwise/slotwise/Route")) (by decide +kernel) (rfl) rfl ?_
  intro h6 H7
  replace H7 : own_H Z h6 (own_CN a (.double d) .null (.int (0 : Int32)) (.int (0 : Int32)) :: os) (as) := H7
  refine own_aloadN K own_d4_14 rfl rfl ?_
  refine own_iload K own_d4_15 rfl ?_
  refine own_putfield K own_d4_17 (host := "") (Or.inl (own_w25 hw)) Via.refl H7 (j := 0) rfl (q := 2) rfl (Or.inr ⟨(own_w26 hw), rfl, rfl⟩) (own_w8 hw) (ty := .int) (by decide +kernel) (rfl) rfl ?_
  intro h8 H9
  replace H9 : own_H Z h8 (own_CN a (.double d) .null (.int (0 : Int32)) (.int (0 : Int32)) :: os) (as) := H9
  refine own_aloadN K own_d4_20 rfl rfl ?_
  refine own_iload K own_d4_21 rfl ?_
  refine own_putfield K own_d4_23 (host := "") (Or.inl (own_w27 hw)) Via.refl H9 (j := 0) rfl (q := 3) rfl (Or.inr ⟨(own_w28 hw), rfl, rfl⟩) (own_w8 hw) (ty := .int) (by decide +kernel) (rfl) rfl ?_
  intro h10 H11
  replace H11 : own_H Z h10 (own_CN a (.double d) .null (.int (0 : Int32)) (.int (1 : Int32)) :: os) (as) := H11
  exact own_retV K own_d4_26 (by decide) (by decide) (⟨rfl, H11⟩)
set_option maxRecDepth 65536 in
set_option maxHeartbeats 40000000 in
theorem own_di_ef (m : MethodId) (x0 : Addr) : entryFrame m #[(.ref x0)] 1 = mkF m 0 #[.val (.ref x0)] [] := by first | (simp [entryFrame, mkF, argsToLocals, Value.category]; done) | rfl
set_option maxRecDepth 65536 in
set_option maxHeartbeats 40000000 in
theorem own_di {l : Launch} {Z : State} {a0 : Array Value} (hw : own_Z Z a0) {h : Heap} {os : List own_O} {as : List own_A} {a : Addr} (H : own_H Z h (own_DP a .null .null (.int (0 : Int32)) :: os) as) : own_Met false l Z (⟨"com/example/slotwise/slotwise/Departures", "<init>", "()V"⟩ : MethodName) prog_10_method_1_code 1 none [] ({ frames := 1, cells := 2, slots := 128, locals := 12 } : Room) #[(.ref a)] h (fun v h' => v = none ∧ ∃ ta ca, own_H Z h' (own_DP a (.ref ta) (.ref ca) (.int (0 : Int32)) :: os) ((ta, .double, "[D", ((.double (0 : UInt64)) :: (.double (0 : UInt64)) :: (.double (0 : UInt64)) :: (.double (0 : UInt64)) :: (.double (0 : UInt64)) :: (.double (0 : UInt64)) :: (List.replicate 58 (.double (0 : UInt64))))) :: (ca, (.object "com/example/slotwise/slotwise/Simulation$Connection"), "[Lcom/example/slotwise/slotwise/Simulation$Connection;", (.null :: .null :: .null :: .null :: .null :: .null :: (List.replicate 58 .null))) :: as)) := by
  refine own_met (by first | exact plainFor_of_name (by decide +kernel) | decide +kernel) ?_
  intro p e s m below meth c K
  refine own_cast (own_di_ef m _) ?_
  refine own_aloadN K own_d5_0 rfl rfl ?_
  refine own_initO K own_d5_1 (own_w36 hw) (own_w19 hw) (own_w20 hw) rfl (by decide) (W := 0) (Nat.le_of_eq rfl) (by decide) ?_
  refine own_aloadN K own_d5_4 rfl rfl ?_
  refine own_bipush K own_d5_5 (v := (64 : Int32)) rfl ?_
  refine own_newarray K own_d5_7 (ty := .double) rfl (own_w37 hw) H (q := 64) (by decide) (ad := "[D") (by decide +kernel) (vs := ((.double (0 : UInt64)) :: (.double (0 : UInt64)) :: (.double (0 : UInt64)) :: (.double (0 : UInt64)) :: (.double (0 : UInt64)) :: (.double (0 : UInt64)) :: (List.replicate 58 (.double (0 : UInt64))))) rfl (by decide) (by decide) (by decide) ?_
  intro h1 a3 H2
  replace H2 : own_H Z h1 (own_DP a .null .null (.int (0 : Int32)) :: os) ((a3, .double, "[D", ((.double (0 : UInt64)) :: (.double (0 : UInt64)) :: (.double (0 : UInt64)) :: (.double (0 : UInt64)) :: (.double (0 : UInt64)) :: (.double (0 : UInt64)) :: (List.replicate 58 (.double (0 : UInt64))))) :: as) := H2
  refine own_putfield K own_d5_9 (host := "") (Or.inl (own_w38 hw)) Via.refl H2 (j := 0) rfl (q := 0) rfl (Or.inl (own_w39 hw)) (own_w31 hw) (ty := (.array .double)) (by decide +kernel) (rfl) rfl ?_
  intro h4 H5
  replace H5 : own_H Z h4 (own_DP a (.ref a3) .null (.int (0 : Int32)) :: os) ((a3, .double, "[D", ((.double (0 : UInt64)) :: (.double (0 : UInt64)) :: (.double (0 : UInt64)) :: (.double (0 : UInt64)) :: (.double (0 : UInt64)) :: (.double (0 : UInt64)) :: (List.replicate 58 (.double (0 : UInt64))))) :: as) := H5
  refine own_aloadN K own_d5_12 rfl rfl ?_
  refine own_bipush K own_d5_13 (v := (64 : Int32)) rfl ?_
  refine own_anewarray K own_d5_15 (own_w40 hw) (own_w7 hw) H5 (q := 64) (by decide) (ad := "[Lcom/example/slotwise/slotwise/Simulation$Connection;") (by decide +kernel) (vs := (.null :: .null :: .null :: .null :: .null :: .null :: (List.replicate 58 .null))) rfl (by decide) (by decide) (by decide) ?_
  intro h6 a8 H7
  replace H7 : own_H Z h6 (own_DP a (.ref a3) .null (.int (0 : Int32)) :: os) ((a8, (.object "com/example/slotwise/slotwise/Simulation$Connection"), "[Lcom/example/slotwise/slotwise/Simulation$Connection;", (.null :: .null :: .null :: .null :: .null :: .null :: (List.replicate 58 .null))) :: (a3, .double, "[D", ((.double (0 : UInt64)) :: (.double (0 : UInt64)) :: (.double (0 : UInt64)) :: (.double (0 : UInt64)) :: (.double (0 : UInt64)) :: (.double (0 : UInt64)) :: (List.replicate 58 (.double (0 : UInt64))))) :: as) := H7
  refine own_putfield K own_d5_18 (host := "") (Or.inl (own_w41 hw)) Via.refl H7 (j := 0) rfl (q := 1) rfl (Or.inl (own_w42 hw)) (own_w31 hw) (ty := (.array (.object "com/example/slotwise/slotwise/Simulation$Connection"))) (by decide +kernel) (rfl) rfl ?_
  intro h9 H10
  replace H10 : own_H Z h9 (own_DP a (.ref a3) (.ref a8) (.int (0 : Int32)) :: os) ((a8, (.object "com/example/slotwise/slotwise/Simulation$Connection"), "[Lcom/example/slotwise/slotwise/Simulation$Connection;", (.null :: .null :: .null :: .null :: .null :: .null :: (List.replicate 58 .null))) :: (a3, .double, "[D", ((.double (0 : UInt64)) :: (.double (0 : UInt64)) :: (.double (0 : UInt64)) :: (.double (0 : UInt64)) :: (.double (0 : UInt64)) :: (.double (0 : UInt64)) :: (List.replicate 58 (.double (0 : UInt64))))) :: as) := H10
  have H11 := H10.frontA 1 rfl
  replace H11 : own_H Z h9 (own_DP a (.ref a3) (.ref a8) (.int (0 : Int32)) :: os) ((a3, .double, "[D", ((.double (0 : UInt64)) :: (.double (0 : UInt64)) :: (.double (0 : UInt64)) :: (.double (0 : UInt64)) :: (.double (0 : UInt64)) :: (.double (0 : UInt64)) :: (List.replicate 58 (.double (0 : UInt64))))) :: (a8, (.object "com/example/slotwise/slotwise/Simulation$Connection"), "[Lcom/example/slotwise/slotwise/Simulation$Connection;", (.null :: .null :: .null :: .null :: .null :: .null :: (List.replicate 58 .null))) :: as) := H11
  exact own_retV K own_d5_21 (by decide) (by decide) (⟨rfl, _, _, H11⟩)
set_option maxRecDepth 65536 in
set_option maxHeartbeats 40000000 in
theorem own_fld_ef (m : MethodId) (x0 : Int64) (x1 : Int32) : entryFrame m #[(.long x0), (.int x1)] 3 = mkF m 0 #[.val (.long x0), .second, .val (.int x1)] [] := by first | (simp [entryFrame, mkF, argsToLocals, Value.category]; done) | rfl
set_option maxRecDepth 65536 in
set_option maxHeartbeats 40000000 in
theorem own_fld {l : Launch} {Z : State} {a0 : Array Value} (hw : own_Z Z a0) {h : Heap} {pk : Int64} {i : Int32} : own_Met false l Z (⟨"com/example/slotwise/slotwise/DeparturesPollPinLaw", "field", "(JI)I"⟩ : MethodName) method_2_code 3 (some .int) [] ({ frames := 0, cells := 0, slots := 0, locals := 0 } : Room) #[(.long pk), (.int i)] h (fun v h' => (∃ z, v = some (.int z)) ∧ h = h') := by
  refine own_met (by first | exact plainFor_of_name (by decide +kernel) | decide +kernel) ?_
  intro p e s m below meth c K
  refine own_cast (own_fld_ef m _ _) ?_
  refine own_lloadN K own_d6_0 rfl ?_
  refine own_bipush K own_d6_1 (v := (8 : Int32)) rfl ?_
  refine own_iloadN K own_d6_3 rfl ?_
  refine own_imul K own_d6_4 ?_
  refine own_lushr K own_d6_5 ?_
  refine own_ldc2J K own_d6_6 (v := (255 : Int64)) (own_w5 hw) ?_
  refine own_land K own_d6_9 ?_
  refine own_l2i K own_d6_10 ?_
  refine own_sipush K own_d6_11 (v := (128 : Int32)) rfl ?_
  refine own_isub K own_d6_14 ?_
  exact own_retI K own_d6_15 (by decide) (by decide) (⟨⟨_, rfl⟩, rfl⟩)
set_option maxRecDepth 65536 in
set_option maxHeartbeats 40000000 in
theorem own_emp_ef (m : MethodId) (x0 : Addr) : entryFrame m #[(.ref x0)] 1 = mkF m 0 #[.val (.ref x0)] [] := by first | (simp [entryFrame, mkF, argsToLocals, Value.category]; done) | rfl
set_option maxRecDepth 65536 in
set_option maxHeartbeats 40000000 in
theorem own_emp {l : Launch} {Z : State} {a0 : Array Value} (hw : own_Z Z a0) {h : Heap} {os : List own_O} {as : List own_A} {a ta ca : Addr} (H : own_H Z h (own_DP a (.ref ta) (.ref ca) (.int (0 : Int32)) :: os) as) : own_Met false l Z (⟨"com/example/slotwise/slotwise/Departures", "isEmpty", "()Z"⟩ : MethodName) prog_10_method_2_code 1 (some .boolean) [] ({ frames := 0, cells := 0, slots := 0, locals := 0 } : Room) #[(.ref a)] h (fun v h' => v = some (.int (1 : Int32)) ∧ h = h') := by
  refine own_met (by first | exact plainFor_of_name (by decide +kernel) | decide +kernel) ?_
  intro p e s m below meth c K
  refine own_cast (own_emp_ef m _) ?_
  refine own_aloadN K own_d7_0 rfl rfl ?_
  refine own_getfield K own_d7_1 (host := "") (Or.inl (own_w48 hw)) Via.refl H (j := 0) rfl (q := 2) rfl ?_
  refine own_ifne K own_d7_4 (fun q => absurd q (by decide)) (fun _ => ?_)
  refine own_iconst K own_d7_7 (v := (1 : Int32)) rfl ?_
  refine own_goto K own_d7_8 ?_
  exact own_retZ K (by first | exact Or.inl rfl | exact Or.inr rfl | decide) own_d7_12 (by decide) (by decide) (⟨rfl, rfl⟩)
set_option maxRecDepth 65536 in
set_option maxHeartbeats 40000000 in
theorem own_idx_ef (m : MethodId) (x0 : Addr) (x1 : Addr) : entryFrame m #[(.ref x0), (.ref x1)] 2 = mkF m 0 #[.val (.ref x0), .val (.ref x1)] [] := by first | (simp [entryFrame, mkF, argsToLocals, Value.category]; done) | rfl
set_option maxRecDepth 65536 in
set_option maxHeartbeats 40000000 in
theorem own_idx {l : Launch} {Z : State} {a0 : Array Value} (hw : own_Z Z a0) {h : Heap} {os : List own_O} {as : List own_A} {aa : Nat → Addr} {cc : Addr} {j : Nat} (H : own_H Z h os ((cc, (.object "com/example/slotwise/slotwise/Simulation$Connection"), "[Lcom/example/slotwise/slotwise/Simulation$Connection;", [(.ref (aa 0)), (.ref (aa 1)), (.ref (aa 2)), (.ref (aa 3)), (.ref (aa 4)), (.ref (aa 5))]) :: as)) (hne : ∀ i j, i < 6 → j < 6 → i ≠ j → aa i ≠ aa j) (hj : j < 6) : own_Met false l Z (⟨"com/example/slotwise/slotwise/DeparturesPollPinLaw", "index", "(Lcom/example/slotwise/slotwise/Simulation$Connection;[Lcom/example/slotwise/slotwise/Simulation$Connection;)I"⟩ : MethodName) method_3_code 2 (some .int) [] ({ frames := 0, cells := 0, slots := 0, locals := 0 } : Room) #[(.ref (aa j)), (.ref cc)] h (fun v h' => v = some (.int (Int32.ofNat j)) ∧ h = h') := by
  refine own_met (by first | exact plainFor_of_name (by decide +kernel) | decide +kernel) ?_
  intro p e s m below meth c K
  refine own_cast (own_idx_ef m _ _) ?_
  refine own_aloadN K own_d8_0 rfl rfl ?_
  refine own_aloadN K own_d8_1 rfl rfl ?_
  refine own_iconst K own_d8_2 (v := (0 : Int32)) rfl ?_
  refine own_aaload K own_d8_3 H (i := 0) rfl rfl (q := 0) (by decide) (rfl) ?_
  refine own_acmpne K own_d8_4 rfl rfl (fun g0 => ?_) (fun g0 => ?_)
  · refine own_aloadN K own_d8_9 rfl rfl ?_
    refine own_aloadN K own_d8_10 rfl rfl ?_
    refine own_iconst K own_d8_11 (v := (1 : Int32)) rfl ?_
    refine own_aaload K own_d8_12 H (i := 0) rfl rfl (q := 1) (by decide) (rfl) ?_
    refine own_acmpne K own_d8_13 rfl rfl (fun g1 => ?_) (fun g1 => ?_)
    · refine own_aloadN K own_d8_18 rfl rfl ?_
      refine own_aloadN K own_d8_19 rfl rfl ?_
      refine own_iconst K own_d8_20 (v := (2 : Int32)) rfl ?_
      refine own_aaload K own_d8_21 H (i := 0) rfl rfl (q := 2) (by decide) (rfl) ?_
      refine own_acmpne K own_d8_22 rfl rfl (fun g2 => ?_) (fun g2 => ?_)
      · refine own_aloadN K own_d8_27 rfl rfl ?_
        refine own_aloadN K own_d8_28 rfl rfl ?_
        refine own_iconst K own_d8_29 (v := (3 : Int32)) rfl ?_
        refine own_aaload K own_d8_30 H (i := 0) rfl rfl (q := 3) (by decide) (rfl) ?_
        refine own_acmpne K own_d8_31 rfl rfl (fun g3 => ?_) (fun g3 => ?_)
        · refine own_aloadN K own_d8_36 rfl rfl ?_
          refine own_aloadN K own_d8_37 rfl rfl ?_
          refine own_iconst K own_d8_38 (v := (4 : Int32)) rfl ?_
          refine own_aaload K own_d8_39 H (i := 0) rfl rfl (q := 4) (by decide) (rfl) ?_
          refine own_acmpne K own_d8_40 rfl rfl (fun g4 => ?_) (fun g4 => ?_)
          · refine own_aloadN K own_d8_45 rfl rfl ?_
            refine own_aloadN K own_d8_46 rfl rfl ?_
            refine own_iconst K own_d8_47 (v := (5 : Int32)) rfl ?_
            refine own_aaload K own_d8_48 H (i := 0) rfl rfl (q := 5) (by decide) (rfl) ?_
            refine own_acmpne K own_d8_49 rfl rfl (fun g5 => ?_) (fun g5 => ?_)
            · refine own_iconst K own_d8_54 (v := (-1 : Int32)) rfl ?_
              exact own_retI K own_d8_55 (by decide) (by decide) (by exfalso; rcases own_lt6 hj with q | q | q | q | q | q <;> subst q <;> first | exact g0 rfl | exact g1 rfl | exact g2 rfl | exact g3 rfl | exact g4 rfl | exact g5 rfl)
            · refine own_iconst K own_d8_52 (v := (5 : Int32)) rfl ?_
              exact own_retI K own_d8_53 (by decide) (by decide) (⟨by rw [own_ai hne hj (by decide) (Classical.not_not.mp g5)]; rfl, rfl⟩)
          · refine own_iconst K own_d8_43 (v := (4 : Int32)) rfl ?_
            exact own_retI K own_d8_44 (by decide) (by decide) (⟨by rw [own_ai hne hj (by decide) (Classical.not_not.mp g4)]; rfl, rfl⟩)
        · refine own_iconst K own_d8_34 (v := (3 : Int32)) rfl ?_
          exact own_retI K own_d8_35 (by decide) (by decide) (⟨by rw [own_ai hne hj (by decide) (Classical.not_not.mp g3)]; rfl, rfl⟩)
      · refine own_iconst K own_d8_25 (v := (2 : Int32)) rfl ?_
        exact own_retI K own_d8_26 (by decide) (by decide) (⟨by rw [own_ai hne hj (by decide) (Classical.not_not.mp g2)]; rfl, rfl⟩)
    · refine own_iconst K own_d8_16 (v := (1 : Int32)) rfl ?_
      exact own_retI K own_d8_17 (by decide) (by decide) (⟨by rw [own_ai hne hj (by decide) (Classical.not_not.mp g1)]; rfl, rfl⟩)
  · refine own_iconst K own_d8_7 (v := (0 : Int32)) rfl ?_
    exact own_retI K own_d8_8 (by decide) (by decide) (⟨by rw [own_ai hne hj (by decide) (Classical.not_not.mp g0)]; rfl, rfl⟩)
set_option maxRecDepth 65536 in
set_option maxHeartbeats 40000000 in
theorem own_min_ef (m : MethodId) (x0 : Int32) (x1 : Int32) : entryFrame m #[(.int x0), (.int x1)] 2 = mkF m 0 #[.val (.int x0), .val (.int x1)] [] := by first | (simp [entryFrame, mkF, argsToLocals, Value.category]; done) | rfl
set_option maxRecDepth 65536 in
set_option maxHeartbeats 40000000 in
theorem own_min {l : Launch} {Z : State} {a0 : Array Value} (hw : own_Z Z a0) {h : Heap} {za : Nat → Int32} {i j : Nat} : own_Met false l Z (⟨"java/lang/Math", "min", "(II)I"⟩ : MethodName) jdk_29_method_69_code 2 (some .int) [] ({ frames := 0, cells := 0, slots := 0, locals := 0 } : Room) #[(.int (za i)), (.int (za j))] h (fun v h' => (∃ i', (i' = i ∨ i' = j) ∧ v = some (.int (za i'))) ∧ h = h') := by
  refine own_met (by first | exact plainFor_of_name (by decide +kernel) | decide +kernel) ?_
  intro p e s m below meth c K
  refine own_cast (own_min_ef m _ _) ?_
  refine own_iloadN K own_d9_0 rfl ?_
  refine own_iloadN K own_d9_1 rfl ?_
  refine own_icmpgt K own_d9_2 (fun g => ?_) (fun g => ?_)
  · refine own_iloadN K own_d9_9 rfl ?_
    exact own_retI K own_d9_10 (by decide) (by decide) (⟨⟨j, Or.inr rfl, rfl⟩, rfl⟩)
  · refine own_iloadN K own_d9_5 rfl ?_
    refine own_goto K own_d9_6 ?_
    exact own_retI K own_d9_10 (by decide) (by decide) (⟨⟨i, Or.inl rfl, rfl⟩, rfl⟩)
set_option maxRecDepth 65536 in
set_option maxHeartbeats 40000000 in
theorem own_mut6_ef (m : MethodId) (x0 : Addr) (x1 : Int32) : entryFrame m #[(.ref x0), (.int x1)] 3 = mkF m 0 #[.val (.ref x0), .val (.int x1), .unset] [] := by first | (simp [entryFrame, mkF, argsToLocals, Value.category]; done) | rfl
set_option maxRecDepth 65536 in
set_option maxHeartbeats 40000000 in
theorem own_mut6 {l : Launch} {Z : State} {a0 : Array Value} (hw : own_Z Z a0) {h : Heap} {os : List own_O} {as : List own_A} {za : Nat → Int32} {vv : Addr} (H : own_H Z h os ((vv, .int, "[I", [(.int (za 0)), (.int (za 1)), (.int (za 2)), (.int (za 3)), (.int (za 4)), (.int (za 5))]) :: as)) : own_Met false l Z (⟨"com/example/slotwise/slotwise/DeparturesPollPinLaw", "minUpTo", "([II)I"⟩ : MethodName) method_4_code 3 (some .int) [] ({ frames := 1, cells := 0, slots := 0, locals := 13 } : Room) #[(.ref vv), (.int (6 : Int32))] h (fun v h' => (∃ i', i' < 6 ∧ v = some (.int (za i'))) ∧ h = h') := by
  refine own_met (by first | exact plainFor_of_name (by decide +kernel) | decide +kernel) ?_
  intro p e s m below meth c K
  refine own_cast (own_mut6_ef m _ _) ?_
  refine own_aloadN K own_d10_0 rfl rfl ?_
  refine own_iconst K own_d10_1 (v := (0 : Int32)) rfl ?_
  refine own_iaload K own_d10_2 H (i := 0) rfl (q := 0) (by decide) (rfl) ?_
  refine own_istoreN K own_d10_3 (Ls' := #[.val (.ref vv), .val (.int (6 : Int32)), .val (.int (za 0))]) rfl ?_
  refine own_iloadN K own_d10_4 rfl ?_
  refine own_iconst K own_d10_5 (v := (1 : Int32)) rfl ?_
  refine own_icmple K own_d10_6 (fun q => absurd q (by decide)) (fun _ => ?_)
  refine own_iloadN K own_d10_9 rfl ?_
  refine own_aloadN K own_d10_10 rfl rfl ?_
  refine own_iconst K own_d10_11 (v := (1 : Int32)) rfl ?_
  refine own_iaload K own_d10_12 H (i := 0) rfl (q := 1) (by decide) (rfl) ?_
  refine own_static K own_d10_13 (own_w71 hw) (own_w72 hw) (own_w73 hw) (own_w74 hw) (argsL := [(.int (za 0)), (.int (za 1))]) (rest := []) (own_min hw (za := za) (i := 0) (j := 1)) own_pd2 rfl rfl rfl (by decide) (W := 0) (Nat.le_of_eq rfl) (by decide) (by decide) (by decide) (by decide) ?_
  intro v3 h1 q2
  obtain ⟨⟨i4, hi5, rfl⟩, rfl⟩ := q2
  refine own_istoreN K own_d10_16 (Ls' := #[.val (.ref vv), .val (.int (6 : Int32)), .val (.int (za i4))]) rfl ?_
  refine own_iloadN K own_d10_17 rfl ?_
  refine own_iconst K own_d10_18 (v := (2 : Int32)) rfl ?_
  refine own_icmple K own_d10_19 (fun q => absurd q (by decide)) (fun _ => ?_)
  refine own_iloadN K own_d10_22 rfl ?_
  refine own_aloadN K own_d10_23 rfl rfl ?_
  refine own_iconst K own_d10_24 (v := (2 : Int32)) rfl ?_
  refine own_iaload K own_d10_25 H (i := 0) rfl (q := 2) (by decide) (rfl) ?_
  refine own_static K own_d10_26 (own_w71 hw) (own_w72 hw) (own_w73 hw) (own_w74 hw) (argsL := [(.int (za i4)), (.int (za 2))]) (rest := []) (own_min hw (za := za) (i := i4) (j := 2)) own_pd2 rfl rfl rfl (by decide) (W := 0) (Nat.le_of_eq rfl) (by decide) (by decide) (by decide) (by decide) ?_
  intro v8 h6 q7
  obtain ⟨⟨i9, hi10, rfl⟩, rfl⟩ := q7
  refine own_istoreN K own_d10_29 (Ls' := #[.val (.ref vv), .val (.int (6 : Int32)), .val (.int (za i9))]) rfl ?_
  refine own_iloadN K own_d10_30 rfl ?_
  refine own_iconst K own_d10_31 (v := (3 : Int32)) rfl ?_
  refine own_icmple K own_d10_32 (fun q => absurd q (by decide)) (fun _ => ?_)
  refine own_iloadN K own_d10_35 rfl ?_
  refine own_aloadN K own_d10_36 rfl rfl ?_
  refine own_iconst K own_d10_37 (v := (3 : Int32)) rfl ?_
  refine own_iaload K own_d10_38 H (i := 0) rfl (q := 3) (by decide) (rfl) ?_
  refine own_static K own_d10_39 (own_w71 hw) (own_w72 hw) (own_w73 hw) (own_w74 hw) (argsL := [(.int (za i9)), (.int (za 3))]) (rest := []) (own_min hw (za := za) (i := i9) (j := 3)) own_pd2 rfl rfl rfl (by decide) (W := 0) (Nat.le_of_eq rfl) (by decide) (by decide) (by decide) (by decide) ?_
  intro v13 h11 q12
  obtain ⟨⟨i14, hi15, rfl⟩, rfl⟩ := q12
  refine own_istoreN K own_d10_42 (Ls' := #[.val (.ref vv), .val (.int (6 : Int32)), .val (.int (za i14))]) rfl ?_
  refine own_iloadN K own_d10_43 rfl ?_
  refine own_iconst K own_d10_44 (v := (4 : Int32)) rfl ?_
  refine own_icmple K own_d10_45 (fun q => absurd q (by decide)) (fun _ => ?_)
  refine own_iloadN K own_d10_48 rfl ?_
  refine own_aloadN K own_d10_49 rfl rfl ?_
  refine own_iconst K own_d10_50 (v := (4 : Int32)) rfl ?_
  refine own_iaload K own_d10_51 H (i := 0) rfl (q := 4) (by decide) (rfl) ?_
  refine own_static K own_d10_52 (own_w71 hw) (own_w72 hw) (own_w73 hw) (own_w74 hw) (argsL := [(.int (za i14)), (.int (za 4))]) (rest := []) (own_min hw (za := za) (i := i14) (j := 4)) own_pd2 rfl rfl rfl (by decide) (W := 0) (Nat.le_of_eq rfl) (by decide) (by decide) (by decide) (by decide) ?_
  intro v18 h16 q17
  obtain ⟨⟨i19, hi20, rfl⟩, rfl⟩ := q17
  refine own_istoreN K own_d10_55 (Ls' := #[.val (.ref vv), .val (.int (6 : Int32)), .val (.int (za i19))]) rfl ?_
  refine own_iloadN K own_d10_56 rfl ?_
  refine own_iconst K own_d10_57 (v := (5 : Int32)) rfl ?_
  refine own_icmple K own_d10_58 (fun q => absurd q (by decide)) (fun _ => ?_)
  refine own_iloadN K own_d10_61 rfl ?_
  refine own_aloadN K own_d10_62 rfl rfl ?_
  refine own_iconst K own_d10_63 (v := (5 : Int32)) rfl ?_
  refine own_iaload K own_d10_64 H (i := 0) rfl (q := 5) (by decide) (rfl) ?_
  refine own_static K own_d10_65 (own_w71 hw) (own_w72 hw) (own_w73 hw) (own_w74 hw) (argsL := [(.int (za i19)), (.int (za 5))]) (rest := []) (own_min hw (za := za) (i := i19) (j := 5)) own_pd2 rfl rfl rfl (by decide) (W := 0) (Nat.le_of_eq rfl) (by decide) (by decide) (by decide) (by decide) ?_
  intro v23 h21 q22
  obtain ⟨⟨i24, hi25, rfl⟩, rfl⟩ := q22
  refine own_istoreN K own_d10_68 (Ls' := #[.val (.ref vv), .val (.int (6 : Int32)), .val (.int (za i24))]) rfl ?_
  refine own_iloadN K own_d10_69 rfl ?_
  exact own_retI K own_d10_70 (by decide) (by decide) (⟨⟨_, by omega, rfl⟩, rfl⟩)
set_option maxRecDepth 65536 in
set_option maxHeartbeats 40000000 in
theorem own_mut5_ef (m : MethodId) (x0 : Addr) (x1 : Int32) : entryFrame m #[(.ref x0), (.int x1)] 3 = mkF m 0 #[.val (.ref x0), .val (.int x1), .unset] [] := by first | (simp [entryFrame, mkF, argsToLocals, Value.category]; done) | rfl
set_option maxRecDepth 65536 in
set_option maxHeartbeats 40000000 in
theorem own_mut5 {l : Launch} {Z : State} {a0 : Array Value} (hw : own_Z Z a0) {h : Heap} {os : List own_O} {as : List own_A} {za : Nat → Int32} {vv : Addr} (H : own_H Z h os ((vv, .int, "[I", [(.int (za 0)), (.int (za 1)), (.int (za 2)), (.int (za 3)), (.int (za 4)), (.int (za 5))]) :: as)) : own_Met false l Z (⟨"com/example/slotwise/slotwise/DeparturesPollPinLaw", "minUpTo", "([II)I"⟩ : MethodName) method_4_code 3 (some .int) [] ({ frames := 1, cells := 0, slots := 0, locals := 13 } : Room) #[(.ref vv), (.int (5 : Int32))] h (fun v h' => (∃ i', i' < 5 ∧ v = some (.int (za i'))) ∧ h = h') := by
  refine own_met (by first | exact plainFor_of_name (by decide +kernel) | decide +kernel) ?_
  intro p e s m below meth c K
  refine own_cast (own_mut5_ef m _ _) ?_
  refine own_aloadN K own_d10_0 rfl rfl ?_
  refine own_iconst K own_d10_1 (v := (0 : Int32)) rfl ?_
  refine own_iaload K own_d10_2 H (i := 0) rfl (q := 0) (by decide) (rfl) ?_
  refine own_istoreN K own_d10_3 (Ls' := #[.val (.ref vv), .val (.int (5 : Int32)), .val (.int (za 0))]) rfl ?_
  refine own_iloadN K own_d10_4 rfl ?_
  refine own_iconst K own_d10_5 (v := (1 : Int32)) rfl ?_
  refine own_icmple K own_d10_6 (fun q => absurd q (by decide)) (fun _ => ?_)
  refine own_iloadN K own_d10_9 rfl ?_
  refine own_aloadN K own_d10_10 rfl rfl ?_
  refine own_iconst K own_d10_11 (v := (1 : Int32)) rfl ?_
  refine own_iaload K own_d10_12 H (i := 0) rfl (q := 1) (by decide) (rfl) ?_
  refine own_static K own_d10_13 (own_w71 hw) (own_w72 hw) (own_w73 hw) (own_w74 hw) (argsL := [(.int (za 0)), (.int (za 1))]) (rest := []) (own_min hw (za := za) (i := 0) (j := 1)) own_pd2 rfl rfl rfl (by decide) (W := 0) (Nat.le_of_eq rfl) (by decide) (by decide) (by decide) (by decide) ?_
  intro v3 h1 q2
  obtain ⟨⟨i4, hi5, rfl⟩, rfl⟩ := q2
  refine own_istoreN K own_d10_16 (Ls' := #[.val (.ref vv), .val (.int (5 : Int32)), .val (.int (za i4))]) rfl ?_
  refine own_iloadN K own_d10_17 rfl ?_
  refine own_iconst K own_d10_18 (v := (2 : Int32)) rfl ?_
  refine own_icmple K own_d10_19 (fun q => absurd q (by decide)) (fun _ => ?_)
  refine own_iloadN K own_d10_22 rfl ?_
  refine own_aloadN K own_d10_23 rfl rfl ?_
  refine own_iconst K own_d10_24 (v := (2 : Int32)) rfl ?_
  refine own_iaload K own_d10_25 H (i := 0) rfl (q := 2) (by decide) (rfl) ?_
  refine own_static K own_d10_26 (own_w71 hw) (own_w72 hw) (own_w73 hw) (own_w74 hw) (argsL := [(.int (za i4)), (.int (za 2))]) (rest := []) (own_min hw (za := za) (i := i4) (j := 2)) own_pd2 rfl rfl rfl (by decide) (W := 0) (Nat.le_of_eq rfl) (by decide) (by decide) (by decide) (by decide) ?_
  intro v8 h6 q7
  obtain ⟨⟨i9, hi10, rfl⟩, rfl⟩ := q7
  refine own_istoreN K own_d10_29 (Ls' := #[.val (.ref vv), .val (.int (5 : Int32)), .val (.int (za i9))]) rfl ?_
  refine own_iloadN K own_d10_30 rfl ?_
  refine own_iconst K own_d10_31 (v := (3 : Int32)) rfl ?_
  refine own_icmple K own_d10_32 (fun q => absurd q (by decide)) (fun _ => ?_)
  refine own_iloadN K own_d10_35 rfl ?_
  refine own_aloadN K own_d10_36 rfl rfl ?_
  refine own_iconst K own_d10_37 (v := (3 : Int32)) rfl ?_
  refine own_iaload K own_d10_38 H (i := 0) rfl (q := 3) (by decide) (rfl) ?_
  refine own_static K own_d10_39 (own_w71 hw) (own_w72 hw) (own_w73 hw) (own_w74 hw) (argsL := [(.int (za i9)), (.int (za 3))]) (rest := []) (own_min hw (za := za) (i := i9) (j := 3)) own_pd2 rfl rfl rfl (by decide) (W := 0) (Nat.le_of_eq rfl) (by decide) (by decide) (by decide) (by decide) ?_
  intro v13 h11 q12
  obtain ⟨⟨i14, hi15, rfl⟩, rfl⟩ := q12
  refine own_istoreN K own_d10_42 (Ls' := #[.val (.ref vv), .val (.int (5 : Int32)), .val (.int (za i14))]) rfl ?_
  refine own_iloadN K own_d10_43 rfl ?_
  refine own_iconst K own_d10_44 (v := (4 : Int32)) rfl ?_
  refine own_icmple K own_d10_45 (fun q => absurd q (by decide)) (fun _ => ?_)
  refine own_iloadN K own_d10_48 rfl ?_
  refine own_aloadN K own_d10_49 rfl rfl ?_
  refine own_iconst K own_d10_50 (v := (4 : Int32)) rfl ?_
  refine own_iaload K own_d10_51 H (i := 0) rfl (q := 4) (by decide) (rfl) ?_
  refine own_static K own_d10_52 (own_w71 hw) (own_w72 hw) (own_w73 hw) (own_w74 hw) (argsL := [(.int (za i14)), (.int (za 4))]) (rest := []) (own_min hw (za := za) (i := i14) (j := 4)) own_pd2 rfl rfl rfl (by decide) (W := 0) (Nat.le_of_eq rfl) (by decide) (by decide) (by decide) (by decide) ?_
  intro v18 h16 q17
  obtain ⟨⟨i19, hi20, rfl⟩, rfl⟩ := q17
  refine own_istoreN K own_d10_55 (Ls' := #[.val (.ref vv), .val (.int (5 : Int32)), .val (.int (za i19))]) rfl ?_
  refine own_iloadN K own_d10_56 rfl ?_
  refine own_iconst K own_d10_57 (v := (5 : Int32)) rfl ?_
  refine own_icmple K own_d10_58 (fun _ => ?_) (fun q => absurd (by decide) q)
  refine own_iloadN K own_d10_69 rfl ?_
  exact own_retI K own_d10_70 (by decide) (by decide) (⟨⟨_, by omega, rfl⟩, rfl⟩)
set_option maxRecDepth 65536 in
set_option maxHeartbeats 40000000 in
theorem own_mut3_ef (m : MethodId) (x0 : Addr) (x1 : Int32) : entryFrame m #[(.ref x0), (.int x1)] 3 = mkF m 0 #[.val (.ref x0), .val (.int x1), .unset] [] := by first | (simp [entryFrame, mkF, argsToLocals, Value.category]; done) | rfl
set_option maxRecDepth 65536 in
set_option maxHeartbeats 40000000 in
theorem own_mut3 {l : Launch} {Z : State} {a0 : Array Value} (hw : own_Z Z a0) {h : Heap} {os : List own_O} {as : List own_A} {za : Nat → Int32} {vv : Addr} (H : own_H Z h os ((vv, .int, "[I", [(.int (za 0)), (.int (za 1)), (.int (za 2)), (.int (za 3)), (.int (za 4)), (.int (za 5))]) :: as)) : own_Met false l Z (⟨"com/example/slotwise/slotwise/DeparturesPollPinLaw", "minUpTo", "([II)I"⟩ : MethodName) method_4_code 3 (some .int) [] ({ frames := 1, cells := 0, slots := 0, locals := 13 } : Room) #[(.ref vv), (.int (3 : Int32))] h (fun v h' => (∃ i', i' < 3 ∧ v = some (.int (za i'))) ∧ h = h') := by
  refine own_met (by first | exact plainFor_of_name (by decide +kernel) | decide +kernel) ?_
  intro p e s m below meth c K
  refine own_cast (own_mut3_ef m _ _) ?_
  refine own_aloadN K own_d10_0 rfl rfl ?_
  refine own_iconst K own_d10_1 (v := (0 : Int32)) rfl ?_
  refine own_iaload K own_d10_2 H (i := 0) rfl (q := 0) (by decide) (rfl) ?_
  refine own_istoreN K own_d10_3 (Ls' := #[.val (.ref vv), .val (.int (3 : Int32)), .val (.int (za 0))]) rfl ?_
  refine own_iloadN K own_d10_4 rfl ?_
  refine own_iconst K own_d10_5 (v := (1 : Int32)) rfl ?_
  refine own_icmple K own_d10_6 (fun q => absurd q (by decide)) (fun _ => ?_)
  refine own_iloadN K own_d10_9 rfl ?_
  refine own_aloadN K own_d10_10 rfl rfl ?_
  refine own_iconst K own_d10_11 (v := (1 : Int32)) rfl ?_
  refine own_iaload K own_d10_12 H (i := 0) rfl (q := 1) (by decide) (rfl) ?_
  refine own_static K own_d10_13 (own_w71 hw) (own_w72 hw) (own_w73 hw) (own_w74 hw) (argsL := [(.int (za 0)), (.int (za 1))]) (rest := []) (own_min hw (za := za) (i := 0) (j := 1)) own_pd2 rfl rfl rfl (by decide) (W := 0) (Nat.le_of_eq rfl) (by decide) (by decide) (by decide) (by decide) ?_
  intro v3 h1 q2
  obtain ⟨⟨i4, hi5, rfl⟩, rfl⟩ := q2
  refine own_istoreN K own_d10_16 (Ls' := #[.val (.ref vv), .val (.int (3 : Int32)), .val (.int (za i4))]) rfl ?_
  refine own_iloadN K own_d10_17 rfl ?_
  refine own_iconst K own_d10_18 (v := (2 : Int32)) rfl ?_
  refine own_icmple K own_d10_19 (fun q => absurd q (by decide)) (fun _ => ?_)
  refine own_iloadN K own_d10_22 rfl ?_
  refine own_aloadN K own_d10_23 rfl rfl ?_
  refine own_iconst K own_d10_24 (v := (2 : Int32)) rfl ?_
  refine own_iaload K own_d10_25 H (i := 0) rfl (q := 2) (by decide) (rfl) ?_
  refine own_static K own_d10_26 (own_w71 hw) (own_w72 hw) (own_w73 hw) (own_w74 hw) (argsL := [(.int (za i4)), (.int (za 2))]) (rest := []) (own_min hw (za := za) (i := i4) (j := 2)) own_pd2 rfl rfl rfl (by decide) (W := 0) (Nat.le_of_eq rfl) (by decide) (by decide) (by decide) (by decide) ?_
  intro v8 h6 q7
  obtain ⟨⟨i9, hi10, rfl⟩, rfl⟩ := q7
  refine own_istoreN K own_d10_29 (Ls' := #[.val (.ref vv), .val (.int (3 : Int32)), .val (.int (za i9))]) rfl ?_
  refine own_iloadN K own_d10_30 rfl ?_
  refine own_iconst K own_d10_31 (v := (3 : Int32)) rfl ?_
  refine own_icmple K own_d10_32 (fun _ => ?_) (fun q => absurd (by decide) q)
  refine own_iloadN K own_d10_43 rfl ?_
  refine own_iconst K own_d10_44 (v := (4 : Int32)) rfl ?_
  refine own_icmple K own_d10_45 (fun _ => ?_) (fun q => absurd (by decide) q)
  refine own_iloadN K own_d10_56 rfl ?_
  refine own_iconst K own_d10_57 (v := (5 : Int32)) rfl ?_
  refine own_icmple K own_d10_58 (fun _ => ?_) (fun q => absurd (by decide) q)
  refine own_iloadN K own_d10_69 rfl ?_
  exact own_retI K own_d10_70 (by decide) (by decide) (⟨⟨_, by omega, rfl⟩, rfl⟩)
set_option maxRecDepth 65536 in
set_option maxHeartbeats 40000000 in
theorem own_mut1_ef (m : MethodId) (x0 : Addr) (x1 : Int32) : entryFrame m #[(.ref x0), (.int x1)] 3 = mkF m 0 #[.val (.ref x0), .val (.int x1), .unset] [] := by first | (simp [entryFrame, mkF, argsToLocals, Value.category]; done) | rfl
set_option maxRecDepth 65536 in
set_option maxHeartbeats 40000000 in
theorem own_mut1 {l : Launch} {Z : State} {a0 : Array Value} (hw : own_Z Z a0) {h : Heap} {os : List own_O} {as : List own_A} {za : Nat → Int32} {vv : Addr} (H : own_H Z h os ((vv, .int, "[I", [(.int (za 0)), (.int (za 1)), (.int (za 2)), (.int (za 3)), (.int (za 4)), (.int (za 5))]) :: as)) : own_Met false l Z (⟨"com/example/slotwise/slotwise/DeparturesPollPinLaw", "minUpTo", "([II)I"⟩ : MethodName) method_4_code 3 (some .int) [] ({ frames := 1, cells := 0, slots := 0, locals := 13 } : Room) #[(.ref vv), (.int (1 : Int32))] h (fun v h' => (∃ i', i' < 1 ∧ v = some (.int (za i'))) ∧ h = h') := by
  refine own_met (by first | exact plainFor_of_name (by decide +kernel) | decide +kernel) ?_
  intro p e s m below meth c K
  refine own_cast (own_mut1_ef m _ _) ?_
  refine own_aloadN K own_d10_0 rfl rfl ?_
  refine own_iconst K own_d10_1 (v := (0 : Int32)) rfl ?_
  refine own_iaload K own_d10_2 H (i := 0) rfl (q := 0) (by decide) (rfl) ?_
  refine own_istoreN K own_d10_3 (Ls' := #[.val (.ref vv), .val (.int (1 : Int32)), .val (.int (za 0))]) rfl ?_
  refine own_iloadN K own_d10_4 rfl ?_
  refine own_iconst K own_d10_5 (v := (1 : Int32)) rfl ?_
  refine own_icmple K own_d10_6 (fun _ => ?_) (fun q => absurd (by decide) q)
  refine own_iloadN K own_d10_17 rfl ?_
  refine own_iconst K own_d10_18 (v := (2 : Int32)) rfl ?_
  refine own_icmple K own_d10_19 (fun _ => ?_) (fun q => absurd (by decide) q)
  refine own_iloadN K own_d10_30 rfl ?_
  refine own_iconst K own_d10_31 (v := (3 : Int32)) rfl ?_
  refine own_icmple K own_d10_32 (fun _ => ?_) (fun q => absurd (by decide) q)
  refine own_iloadN K own_d10_43 rfl ?_
  refine own_iconst K own_d10_44 (v := (4 : Int32)) rfl ?_
  refine own_icmple K own_d10_45 (fun _ => ?_) (fun q => absurd (by decide) q)
  refine own_iloadN K own_d10_56 rfl ?_
  refine own_iconst K own_d10_57 (v := (5 : Int32)) rfl ?_
  refine own_icmple K own_d10_58 (fun _ => ?_) (fun q => absurd (by decide) q)
  refine own_iloadN K own_d10_69 rfl ?_
  exact own_retI K own_d10_70 (by decide) (by decide) (⟨⟨_, by omega, rfl⟩, rfl⟩)
set_option maxRecDepth 65536 in
set_option maxHeartbeats 40000000 in
theorem own_law_ef (m : MethodId) (x0 : Int64) (x1 : Int32) : entryFrame m #[(.long x0), (.int x1)] 27 = mkF m 0 #[.val (.long x0), .second, .val (.int x1), .unset, .unset, .unset, .unset, .unset, .unset, .unset, .unset, .unset, .unset, .unset, .unset, .unset, .unset, .unset, .unset, .unset, .unset, .unset, .unset, .unset, .unset, .unset, .unset] [] := by first | (simp [entryFrame, mkF, argsToLocals, Value.category]; done) | rfl
set_option maxRecDepth 65536 in
set_option maxHeartbeats 40000000 in
theorem own_law {l : Launch} {Z : State} {a0 : Array Value} (hw : own_Z Z a0) {pk : Int64} {mo : Int32} : own_Met false l Z (⟨"com/example/slotwise/slotwise/DeparturesPollPinLaw", "law", "(JI)Z"⟩ : MethodName) code 27 (some .boolean) tables_1 room_1 #[(.long pk), (.int mo)] Z.heap (fun v h' => v = some (.int 1)) := by
  refine own_met (by first | exact plainFor_of_name (by decide +kernel) | decide +kernel) ?_
  intro p e s m below meth c K
  refine own_cast (own_law_ef m _ _) ?_
  have H := own_H.start Z
  rcases own_and3 mo with q | q | q | q
  · refine own_bipush K own_d11_0 (v := (6 : Int32)) rfl ?_
    refine own_newarray K own_d11_2 (ty := .int) rfl (own_w0 hw) H (q := 6) (by decide) (ad := "[I") (by decide +kernel) (vs := [(.int (0 : Int32)), (.int (0 : Int32)), (.int (0 : Int32)), (.int (0 : Int32)), (.int (0 : Int32)), (.int (0 : Int32))]) rfl (by decide) (by decide) (by decide) ?_
    intro h1 a3 H2
    replace H2 : own_H Z h1 ([]) ((a3, .int, "[I", [(.int (0 : Int32)), (.int (0 : Int32)), (.int (0 : Int32)), (.int (0 : Int32)), (.int (0 : Int32)), (.int (0 : Int32))]) :: []) := H2
    refine own_astoreN K own_d11_4 rfl (Ls' := #[.val (.long pk), .second, .val (.int mo), .val (.ref a3), .unset, .unset, .unset, .unset, .unset, .unset, .unset, .unset, .unset, .unset, .unset, .unset, .unset, .unset, .unset, .unset, .unset, .unset, .unset, .unset, .unset, .unset, .unset]) rfl ?_
    refine own_aloadN K own_d11_5 rfl rfl ?_
    refine own_iconst K own_d11_6 (v := (0 : Int32)) rfl ?_
    refine own_lloadN K own_d11_7 rfl ?_
    refine own_iconst K own_d11_8 (v := (0 : Int32)) rfl ?_
    refine own_static K own_d11_9 (own_w1 hw) (own_w2 hw) (own_w3 hw) (own_w4 hw) (argsL := [(.long pk), (.int (0 : Int32))]) (rest := [(.int (0 : Int32)), (.ref a3)]) (own_fld hw) own_pd3 rfl rfl rfl (by decide) (W := 2) (Nat.le_of_eq rfl) (by decide) (by decide) (by decide) (by decide) ?_
    intro v6 h4 q5
    obtain ⟨⟨z7, rfl⟩, rfl⟩ := q5
    refine own_iastore K own_d11_12 H2 (i := 0) rfl (q := 0) (by decide) (own_le rfl) ?_
    intro h8 H9
    replace H9 : own_H Z h8 ([]) ((a3, .int, "[I", [(.int z7), (.int (0 : Int32)), (.int (0 : Int32)), (.int (0 : Int32)), (.int (0 : Int32)), (.int (0 : Int32))]) :: []) := H9
    refine own_aloadN K own_d11_13 rfl rfl ?_
    refine own_iconst K own_d11_14 (v := (1 : Int32)) rfl ?_
    refine own_lloadN K own_d11_15 rfl ?_
    refine own_iconst K own_d11_16 (v := (1 : Int32)) rfl ?_
    refine own_static K own_d11_17 (own_w1 hw) (own_w2 hw) (own_w3 hw) (own_w4 hw) (argsL := [(.long pk), (.int (1 : Int32))]) (rest := [(.int (1 : Int32)), (.ref a3)]) (own_fld hw) own_pd3 rfl rfl rfl (by decide) (W := 2) (Nat.le_of_eq rfl) (by decide) (by decide) (by decide) (by decide) ?_
    intro v12 h10 q11
    obtain ⟨⟨z13, rfl⟩, rfl⟩ := q11
    refine own_iastore K own_d11_20 H9 (i := 0) rfl (q := 1) (by decide) (own_le rfl) ?_
    intro h14 H15
    replace H15 : own_H Z h14 ([]) ((a3, .int, "[I", [(.int z7), (.int z13), (.int (0 : Int32)), (.int (0 : Int32)), (.int (0 : Int32)), (.int (0 : Int32))]) :: []) := H15
    refine own_aloadN K own_d11_21 rfl rfl ?_
    refine own_iconst K own_d11_22 (v := (2 : Int32)) rfl ?_
    refine own_lloadN K own_d11_23 rfl ?_
    refine own_iconst K own_d11_24 (v := (2 : Int32)) rfl ?_
    refine own_static K own_d11_25 (own_w1 hw) (own_w2 hw) (own_w3 hw) (own_w4 hw) (argsL := [(.long pk), (.int (2 : Int32))]) (rest := [(.int (2 : Int32)), (.ref a3)]) (own_fld hw) own_pd3 rfl rfl rfl (by decide) (W := 2) (Nat.le_of_eq rfl) (by decide) (by decide) (by decide) (by decide) ?_
    intro v18 h16 q17
    obtain ⟨⟨z19, rfl⟩, rfl⟩ := q17
    refine own_iastore K own_d11_28 H15 (i := 0) rfl (q := 2) (by decide) (own_le rfl) ?_
    intro h20 H21
    replace H21 : own_H Z h20 ([]) ((a3, .int, "[I", [(.int z7), (.int z13), (.int z19), (.int (0 : Int32)), (.int (0 : Int32)), (.int (0 : Int32))]) :: []) := H21
    refine own_aloadN K own_d11_29 rfl rfl ?_
    refine own_iconst K own_d11_30 (v := (3 : Int32)) rfl ?_
    refine own_lloadN K own_d11_31 rfl ?_
    refine own_iconst K own_d11_32 (v := (3 : Int32)) rfl ?_
    refine own_static K own_d11_33 (own_w1 hw) (own_w2 hw) (own_w3 hw) (own_w4 hw) (argsL := [(.long pk), (.int (3 : Int32))]) (rest := [(.int (3 : Int32)), (.ref a3)]) (own_fld hw) own_pd3 rfl rfl rfl (by decide) (W := 2) (Nat.le_of_eq rfl) (by decide) (by decide) (by decide) (by decide) ?_
    intro v24 h22 q23
    obtain ⟨⟨z25, rfl⟩, rfl⟩ := q23
    refine own_iastore K own_d11_36 H21 (i := 0) rfl (q := 3) (by decide) (own_le rfl) ?_
    intro h26 H27
    replace H27 : own_H Z h26 ([]) ((a3, .int, "[I", [(.int z7), (.int z13), (.int z19), (.int z25), (.int (0 : Int32)), (.int (0 : Int32))]) :: []) := H27
    refine own_aloadN K own_d11_37 rfl rfl ?_
    refine own_iconst K own_d11_38 (v := (4 : Int32)) rfl ?_
    refine own_lloadN K own_d11_39 rfl ?_
    refine own_iconst K own_d11_40 (v := (4 : Int32)) rfl ?_
    refine own_static K own_d11_41 (own_w1 hw) (own_w2 hw) (own_w3 hw) (own_w4 hw) (argsL := [(.long pk), (.int (4 : Int32))]) (rest := [(.int (4 : Int32)), (.ref a3)]) (own_fld hw) own_pd3 rfl rfl rfl (by decide) (W := 2) (Nat.le_of_eq rfl) (by decide) (by decide) (by decide) (by decide) ?_
    intro v30 h28 q29
    obtain ⟨⟨z31, rfl⟩, rfl⟩ := q29
    refine own_iastore K own_d11_44 H27 (i := 0) rfl (q := 4) (by decide) (own_le rfl) ?_
    intro h32 H33
    replace H33 : own_H Z h32 ([]) ((a3, .int, "[I", [(.int z7), (.int z13), (.int z19), (.int z25), (.int z31), (.int (0 : Int32))]) :: []) := H33
    refine own_aloadN K own_d11_45 rfl rfl ?_
    refine own_iconst K own_d11_46 (v := (5 : Int32)) rfl ?_
    refine own_lloadN K own_d11_47 rfl ?_
    refine own_iconst K own_d11_48 (v := (5 : Int32)) rfl ?_
    refine own_static K own_d11_49 (own_w1 hw) (own_w2 hw) (own_w3 hw) (own_w4 hw) (argsL := [(.long pk), (.int (5 : Int32))]) (rest := [(.int (5 : Int32)), (.ref a3)]) (own_fld hw) own_pd3 rfl rfl rfl (by decide) (W := 2) (Nat.le_of_eq rfl) (by decide) (by decide) (by decide) (by decide) ?_
    intro v36 h34 q35
    obtain ⟨⟨z37, rfl⟩, rfl⟩ := q35
    refine own_iastore K own_d11_52 H33 (i := 0) rfl (q := 5) (by decide) (own_le rfl) ?_
    intro h38 H39
    replace H39 : own_H Z h38 ([]) ((a3, .int, "[I", [(.int z7), (.int z13), (.int z19), (.int z25), (.int z31), (.int z37)]) :: []) := H39
    obtain ⟨za, ez0, ez1, ez2, ez3, ez4, ez5⟩ : ∃ za : Nat → Int32, z7 = za 0 ∧ z13 = za 1 ∧ z19 = za 2 ∧ z25 = za 3 ∧ z31 = za 4 ∧ z37 = za 5 := ⟨fun j => [z7, z13, z19, z25, z31, z37].getD j 0, rfl, rfl, rfl, rfl, rfl, rfl⟩
    subst ez0 ez1 ez2 ez3 ez4 ez5
    refine own_bipush K own_d11_53 (v := (6 : Int32)) rfl ?_
    refine own_anewarray K own_d11_55 (own_w6 hw) (own_w7 hw) H39 (q := 6) (by decide) (ad := "[Lcom/example/slotwise/slotwise/Simulation$Connection;") (by decide +kernel) (vs := [.null, .null, .null, .null, .null, .null]) rfl (by decide) (by decide) (by decide) ?_
    intro h40 a42 H41
    replace H41 : own_H Z h40 ([]) ((a42, (.object "com/example/slotwise/slotwise/Simulation$Connection"), "[Lcom/example/slotwise/slotwise/Simulation$Connection;", [.null, .null, .null, .null, .null, .null]) :: (a3, .int, "[I", [(.int (za 0)), (.int (za 1)), (.int (za 2)), (.int (za 3)), (.int (za 4)), (.int (za 5))]) :: []) := H41
    refine own_astore K own_d11_58 rfl (Ls' := #[.val (.long pk), .second, .val (.int mo), .val (.ref a3), .val (.ref a42), .unset, .unset, .unset, .unset, .unset, .unset, .unset, .unset, .unset, .unset, .unset, .unset, .unset, .unset, .unset, .unset, .unset, .unset, .unset, .unset, .unset, .unset]) rfl ?_
    refine own_aload K own_d11_60 rfl rfl ?_
    refine own_iconst K own_d11_62 (v := (0 : Int32)) rfl ?_
    refine own_new K own_d11_63 (own_w6 hw) (own_w8 hw) (own_w9 hw) H41 (own_CN_F hw) (own_CN_P hw) (by decide) (by decide) ?_
    intro h43 a45 H44
    replace H44 : own_H Z h43 (own_CN a45 (.double (0 : UInt64)) .null (.int (0 : Int32)) (.int (0 : Int32)) :: []) ((a42, (.object "com/example/slotwise/slotwise/Simulation$Connection"), "[Lcom/example/slotwise/slotwise/Simulation$Connection;", [.null, .null, .null, .null, .null, .null]) :: (a3, .int, "[I", [(.int (za 0)), (.int (za 1)), (.int (za 2)), (.int (za 3)), (.int (za 4)), (.int (za 5))]) :: []) := H44
    refine own_dup K own_d11_66 rfl ?_
    refine own_aloadN K own_d11_67 rfl rfl ?_
    refine own_iconst K own_d11_68 (v := (0 : Int32)) rfl ?_
    refine own_iaload K own_d11_69 H44 (i := 1) rfl (q := 0) (by decide) (rfl) ?_
    refine own_i2d K own_d11_70 ?_
    refine own_aconstNull K own_d11_71 ?_
    refine own_iconst K own_d11_72 (v := (0 : Int32)) rfl ?_
    refine own_iconst K own_d11_73 (v := (1 : Int32)) rfl ?_
    refine own_special K own_d11_74 rfl (own_w10 hw) (own_w11 hw) (own_w9 hw) (own_w12 hw) (a := a45) (argsL := [(.double (FP.i2d (za 0))), .null, (.int (0 : Int32)), (.int (1 : Int32))]) (rest := [(.ref a45), (.int (0 : Int32)), (.ref a42)]) (own_ni hw H44) own_pd4 rfl rfl rfl (by decide) (W := 3) (Nat.le_of_eq rfl) (by decide) (by decide) (by decide) (by decide) ?_
    intro v48 h46 q47
    obtain ⟨rfl, H49⟩ := q47
    replace H49 : own_H Z h46 (own_CN a45 (.double (FP.i2d (za 0))) .null (.int (0 : Int32)) (.int (1 : Int32)) :: []) ((a42, (.object "com/example/slotwise/slotwise/Simulation$Connection"), "[Lcom/example/slotwise/slotwise/Simulation$Connection;", [.null, .null, .null, .null, .null, .null]) :: (a3, .int, "[I", [(.int (za 0)), (.int (za 1)), (.int (za 2)), (.int (za 3)), (.int (za 4)), (.int (za 5))]) :: []) := H49
    refine own_aastoreR K own_d11_77 H49 (i := 0) rfl (by decide) (Ins.self (H49.atO (i := 0) rfl)) (q := 0) (by decide) (own_le rfl) ?_
    intro h50 H51
    replace H51 : own_H Z h50 (own_CN a45 (.double (FP.i2d (za 0))) .null (.int (0 : Int32)) (.int (1 : Int32)) :: []) ((a42, (.object "com/example/slotwise/slotwise/Simulation$Connection"), "[Lcom/example/slotwise/slotwise/Simulation$Connection;", [(.ref a45), .null, .null, .null, .null, .null]) :: (a3, .int, "[I", [(.int (za 0)), (.int (za 1)), (.int (za 2)), (.int (za 3)), (.int (za 4)), (.int (za 5))]) :: []) := H51
    refine own_aload K own_d11_78 rfl rfl ?_
    refine own_iconst K own_d11_80 (v := (1 : Int32)) rfl ?_
    refine own_new K own_d11_81 (own_w6 hw) (own_w8 hw) (own_w9 hw) H51 (own_CN_F hw) (own_CN_P hw) (by decide) (by decide) ?_
    intro h52 a54 H53
    replace H53 : own_H Z h52 (own_CN a54 (.double (0 : UInt64)) .null (.int (0 : Int32)) (.int (0 : Int32)) :: own_CN a45 (.double (FP.i2d (za 0))) .null (.int (0 : Int32)) (.int (1 : Int32)) :: []) ((a42, (.object "com/example/slotwise/slotwise/Simulation$Connection"), "[Lcom/example/slotwise/slotwise/Simulation$Connection;", [(.ref a45), .null, .null, .null, .null, .null]) :: (a3, .int, "[I", [(.int (za 0)), (.int (za 1)), (.int (za 2)), (.int (za 3)), (.int (za 4)), (.int (za 5))]) :: []) := H53
    refine own_dup K own_d11_84 rfl ?_
    refine own_aloadN K own_d11_85 rfl rfl ?_
    refine own_iconst K own_d11_86 (v := (1 : Int32)) rfl ?_
    refine own_iaload K own_d11_87 H53 (i := 1) rfl (q := 1) (by decide) (rfl) ?_
    refine own_i2d K own_d11_88 ?_
    refine own_aconstNull K own_d11_89 ?_
    refine own_iconst K own_d11_90 (v := (0 : Int32)) rfl ?_
    refine own_iconst K own_d11_91 (v := (1 : Int32)) rfl ?_
    refine own_special K own_d11_92 rfl (own_w10 hw) (own_w11 hw) (own_w9 hw) (own_w12 hw) (a := a54) (argsL := [(.double (FP.i2d (za 1))), .null, (.int (0 : Int32)), (.int (1 : Int32))]) (rest := [(.ref a54), (.int (1 : Int32)), (.ref a42)]) (own_ni hw H53) own_pd4 rfl rfl rfl (by decide) (W := 3) (Nat.le_of_eq rfl) (by decide) (by decide) (by decide) (by decide) ?_
    intro v57 h55 q56
    obtain ⟨rfl, H58⟩ := q56
    replace H58 : own_H Z h55 (own_CN a54 (.double (FP.i2d (za 1))) .null (.int (0 : Int32)) (.int (1 : Int32)) :: own_CN a45 (.double (FP.i2d (za 0))) .null (.int (0 : Int32)) (.int (1 : Int32)) :: []) ((a42, (.object "com/example/slotwise/slotwise/Simulation$Connection"), "[Lcom/example/slotwise/slotwise/Simulation$Connection;", [(.ref a45), .null, .null, .null, .null, .null]) :: (a3, .int, "[I", [(.int (za 0)), (.int (za 1)), (.int (za 2)), (.int (za 3)), (.int (za 4)), (.int (za 5))]) :: []) := H58
    refine own_aastoreR K own_d11_95 H58 (i := 0) rfl (by decide) (Ins.self (H58.atO (i := 0) rfl)) (q := 1) (by decide) (own_le rfl) ?_
    intro h59 H60
    replace H60 : own_H Z h59 (own_CN a54 (.double (FP.i2d (za 1))) .null (.int (0 : Int32)) (.int (1 : Int32)) :: own_CN a45 (.double (FP.i2d (za 0))) .null (.int (0 : Int32)) (.int (1 : Int32)) :: []) ((a42, (.object "com/example/slotwise/slotwise/Simulation$Connection"), "[Lcom/example/slotwise/slotwise/Simulation$Connection;", [(.ref a45), (.ref a54), .null, .null, .null, .null]) :: (a3, .int, "[I", [(.int (za 0)), (.int (za 1)), (.int (za 2)), (.int (za 3)), (.int (za 4)), (.int (za 5))]) :: []) := H60
    refine own_aload K own_d11_96 rfl rfl ?_
    refine own_iconst K own_d11_98 (v := (2 : Int32)) rfl ?_
    refine own_new K own_d11_99 (own_w6 hw) (own_w8 hw) (own_w9 hw) H60 (own_CN_F hw) (own_CN_P hw) (by decide) (by decide) ?_
    intro h61 a63 H62
    replace H62 : own_H Z h61 (own_CN a63 (.double (0 : UInt64)) .null (.int (0 : Int32)) (.int (0 : Int32)) :: own_CN a54 (.double (FP.i2d (za 1))) .null (.int (0 : Int32)) (.int (1 : Int32)) :: own_CN a45 (.double (FP.i2d (za 0))) .null (.int (0 : Int32)) (.int (1 : Int32)) :: []) ((a42, (.object "com/example/slotwise/slotwise/Simulation$Connection"), "[Lcom/example/slotwise/slotwise/Simulation$Connection;", [(.ref a45), (.ref a54), .null, .null, .null, .null]) :: (a3, .int, "[I", [(.int (za 0)), (.int (za 1)), (.int (za 2)), (.int (za 3)), (.int (za 4)), (.int (za 5))]) :: []) := H62
    refine own_dup K own_d11_102 rfl ?_
    refine own_aloadN K own_d11_103 rfl rfl ?_
    refine own_iconst K own_d11_104 (v := (2 : Int32)) rfl ?_
    refine own_iaload K own_d11_105 H62 (i := 1) rfl (q := 2) (by decide) (rfl) ?_
    refine own_i2d K own_d11_106 ?_
    refine own_aconstNull K own_d11_107 ?_
    refine own_iconst K own_d11_108 (v := (0 : Int32)) rfl ?_
    refine own_iconst K own_d11_109 (v := (1 : Int32)) rfl ?_
    refine own_special K own_d11_110 rfl (own_w10 hw) (own_w11 hw) (own_w9 hw) (own_w12 hw) (a := a63) (argsL := [(.double (FP.i2d (za 2))), .null, (.int (0 : Int32)), (.int (1 : Int32))]) (rest := [(.ref a63), (.int (2 : Int32)), (.ref a42)]) (own_ni hw H62) own_pd4 rfl rfl rfl (by decide) (W := 3) (Nat.le_of_eq rfl) (by decide) (by decide) (by decide) (by decide) ?_
    intro v66 h64 q65
    obtain ⟨rfl, H67⟩ := q65
    replace H67 : own_H Z h64 (own_CN a63 (.double (FP.i2d (za 2))) .null (.int (0 : Int32)) (.int (1 : Int32)) :: own_CN a54 (.double (FP.i2d (za 1))) .null (.int (0 : Int32)) (.int (1 : Int32)) :: own_CN a45 (.double (FP.i2d (za 0))) .null (.int (0 : Int32)) (.int (1 : Int32)) :: []) ((a42, (.object "com/example/slotwise/slotwise/Simulation$Connection"), "[Lcom/example/slotwise/slotwise/Simulation$Connection;", [(.ref a45), (.ref a54), .null, .null, .null, .null]) :: (a3, .int, "[I", [(.int (za 0)), (.int (za 1)), (.int (za 2)), (.int (za 3)), (.int (za 4)), (.int (za 5))]) :: []) := H67
    refine own_aastoreR K own_d11_113 H67 (i := 0) rfl (by decide) (Ins.self (H67.atO (i := 0) rfl)) (q := 2) (by decide) (own_le rfl) ?_
    intro h68 H69
    replace H69 : own_H Z h68 (own_CN a63 (.double (FP.i2d (za 2))) .null (.int (0 : Int32)) (.int (1 : Int32)) :: own_CN a54 (.double (FP.i2d (za 1))) .null (.int (0 : Int32)) (.int (1 : Int32)) :: own_CN a45 (.double (FP.i2d (za 0))) .null (.int (0 : Int32)) (.int (1 : Int32)) :: []) ((a42, (.object "com/example/slotwise/slotwise/Simulation$Connection"), "[Lcom/example/slotwise/slotwise/Simulation$Connection;", [(.ref a45), (.ref a54), (.ref a63), .null, .null, .null]) :: (a3, .int, "[I", [(.int (za 0)), (.int (za 1)), (.int (za 2)), (.int (za 3)), (.int (za 4)), (.int (za 5))]) :: []) := H69
    refine own_aload K own_d11_114 rfl rfl ?_
    refine own_iconst K own_d11_116 (v := (3 : Int32)) rfl ?_
    refine own_new K own_d11_117 (own_w6 hw) (own_w8 hw) (own_w9 hw) H69 (own_CN_F hw) (own_CN_P hw) (by decide) (by decide) ?_
    intro h70 a72 H71
    replace H71 : own_H Z h70 (own_CN a72 (.double (0 : UInt64)) .null (.int (0 : Int32)) (.int (0 : Int32)) :: own_CN a63 (.double (FP.i2d (za 2))) .null (.int (0 : Int32)) (.int (1 : Int32)) :: own_CN a54 (.double (FP.i2d (za 1))) .null (.int (0 : Int32)) (.int (1 : Int32)) :: own_CN a45 (.double (FP.i2d (za 0))) .null (.int (0 : Int32)) (.int (1 : Int32)) :: []) ((a42, (.object "com/example/slotwise/slotwise/Simulation$Connection"), "[Lcom/example/slotwise/slotwise/Simulation$Connection;", [(.ref a45), (.ref a54), (.ref a63), .null, .null, .null]) :: (a3, .int, "[I", [(.int (za 0)), (.int (za 1)), (.int (za 2)), (.int (za 3)), (.int (za 4)), (.int (za 5))]) :: []) := H71
    refine own_dup K own_d11_120 rfl ?_
    refine own_aloadN K own_d11_121 rfl rfl ?_
    refine own_iconst K own_d11_122 (v := (3 : Int32)) rfl ?_
    refine own_iaload K own_d11_123 H71 (i := 1) rfl (q := 3) (by decide) (rfl) ?_
    refine own_i2d K own_d11_124 ?_
    refine own_aconstNull K own_d11_125 ?_
    refine own_iconst K own_d11_126 (v := (0 : Int32)) rfl ?_
    refine own_iconst K own_d11_127 (v := (1 : Int32)) rfl ?_
    refine own_special K own_d11_128 rfl (own_w10 hw) (own_w11 hw) (own_w9 hw) (own_w12 hw) (a := a72) (argsL := [(.double (FP.i2d (za 3))), .null, (.int (0 : Int32)), (.int (1 : Int32))]) (rest := [(.ref a72), (.int (3 : Int32)), (.ref a42)]) (own_ni hw H71) own_pd4 rfl rfl rfl (by decide) (W := 3) (Nat.le_of_eq rfl) (by decide) (by decide) (by decide) (by decide) ?_
    intro v75 h73 q74
    obtain ⟨rfl, H76⟩ := q74
    replace H76 : own_H Z h73 (own_CN a72 (.double (FP.i2d (za 3))) .null (.int (0 : Int32)) (.int (1 : Int32)) :: own_CN a63 (.double (FP.i2d (za 2))) .null (.int (0 : Int32)) (.int (1 : Int32)) :: own_CN a54 (.double (FP.i2d (za 1))) .null (.int (0 : Int32)) (.int (1 : Int32)) :: own_CN a45 (.double (FP.i2d (za 0))) .null (.int (0 : Int32)) (.int (1 : Int32)) :: []) ((a42, (.object "com/example/slotwise/slotwise/Simulation$Connection"), "[Lcom/example/slotwise/slotwise/Simulation$Connection;", [(.ref a45), (.ref a54), (.ref a63), .null, .null, .null]) :: (a3, .int, "[I", [(.int (za 0)), (.int (za 1)), (.int (za 2)), (.int (za 3)), (.int (za 4)), (.int (za 5))]) :: []) := H76
    refine own_aastoreR K own_d11_131 H76 (i := 0) rfl (by decide) (Ins.self (H76.atO (i := 0) rfl)) (q := 3) (by decide) (own_le rfl) ?_
    intro h77 H78
    replace H78 : own_H Z h77 (own_CN a72 (.double (FP.i2d (za 3))) .null (.int (0 : Int32)) (.int (1 : Int32)) :: own_CN a63 (.double (FP.i2d (za 2))) .null (.int (0 : Int32)) (.int (1 : Int32)) :: own_CN a54 (.double (FP.i2d (za 1))) .null (.int (0 : Int32)) (.int (1 : Int32)) :: own_CN a45 (.double (FP.i2d (za 0))) .null (.int (0 : Int32)) (.int (1 : Int32)) :: []) ((a42, (.object "com/example/slotwise/slotwise/Simulation$Connection"), "[Lcom/example/slotwise/slotwise/Simulation$Connection;", [(.ref a45), (.ref a54), (.ref a63), (.ref a72), .null, .null]) :: (a3, .int, "[I", [(.int (za 0)), (.int (za 1)), (.int (za 2)), (.int (za 3)), (.int (za 4)), (.int (za 5))]) :: []) := H78
    refine own_aload K own_d11_132 rfl rfl ?_
    refine own_iconst K own_d11_134 (v := (4 : Int32)) rfl ?_
    refine own_new K own_d11_135 (own_w6 hw) (own_w8 hw) (own_w9 hw) H78 (own_CN_F hw) (own_CN_P hw) (by decide) (by decide) ?_
    intro h79 a81 H80
    replace H80 : own_H Z h79 (own_CN a81 (.double (0 : UInt64)) .null (.int (0 : Int32)) (.int (0 : Int32)) :: own_CN a72 (.double (FP.i2d (za 3))) .null (.int (0 : Int32)) (.int (1 : Int32)) :: own_CN a63 (.double (FP.i2d (za 2))) .null (.int (0 : Int32)) (.int (1 : Int32)) :: own_CN a54 (.double (FP.i2d (za 1))) .null (.int (0 : Int32)) (.int (1 : Int32)) :: own_CN a45 (.double (FP.i2d (za 0))) .null (.int (0 : Int32)) (.int (1 : Int32)) :: []) ((a42, (.object "com/example/slotwise/slotwise/Simulation$Connection"), "[Lcom/example/slotwise/slotwise/Simulation$Connection;", [(.ref a45), (.ref a54), (.ref a63), (.ref a72), .null, .null]) :: (a3, .int, "[I", [(.int (za 0)), (.int (za 1)), (.int (za 2)), (.int (za 3)), (.int (za 4)), (.int (za 5))]) :: []) := H80
    refine own_dup K own_d11_138 rfl ?_
    refine own_aloadN K own_d11_139 rfl rfl ?_
    refine own_iconst K own_d11_140 (v := (4 : Int32)) rfl ?_
    refine own_iaload K own_d11_141 H80 (i := 1) rfl (q := 4) (by decide) (rfl) ?_
    refine own_i2d K own_d11_142 ?_
    refine own_aconstNull K own_d11_143 ?_
    refine own_iconst K own_d11_144 (v := (0 : Int32)) rfl ?_
    refine own_iconst K own_d11_145 (v := (1 : Int32)) rfl ?_
    refine own_special K own_d11_146 rfl (own_w10 hw) (own_w11 hw) (own_w9 hw) (own_w12 hw) (a := a81) (argsL := [(.double (FP.i2d (za 4))), .null, (.int (0 : Int32)), (.int (1 : Int32))]) (rest := [(.ref a81), (.int (4 : Int32)), (.ref a42)]) (own_ni hw H80) own_pd4 rfl rfl rfl (by decide) (W := 3) (Nat.le_of_eq rfl) (by decide) (by decide) (by decide) (by decide) ?_
    intro v84 h82 q83
    obtain ⟨rfl, H85⟩ := q83
    replace H85 : own_H Z h82 (own_CN a81 (.double (FP.i2d (za 4))) .null (.int (0 : Int32)) (.int (1 : Int32)) :: own_CN a72 (.double (FP.i2d (za 3))) .null (.int (0 : Int32)) (.int (1 : Int32)) :: own_CN a63 (.double (FP.i2d (za 2))) .null (.int (0 : Int32)) (.int (1 : Int32)) :: own_CN a54 (.double (FP.i2d (za 1))) .null (.int (0 : Int32)) (.int (1 : Int32)) :: own_CN a45 (.double (FP.i2d (za 0))) .null (.int (0 : Int32)) (.int (1 : Int32)) :: []) ((a42, (.object "com/example/slotwise/slotwise/Simulation$Connection"), "[Lcom/example/slotwise/slotwise/Simulation$Connection;", [(.ref a45), (.ref a54), (.ref a63), (.ref a72), .null, .null]) :: (a3, .int, "[I", [(.int (za 0)), (.int (za 1)), (.int (za 2)), (.int (za 3)), (.int (za 4)), (.int (za 5))]) :: []) := H85
    refine own_aastoreR K own_d11_149 H85 (i := 0) rfl (by decide) (Ins.self (H85.atO (i := 0) rfl)) (q := 4) (by decide) (own_le rfl) ?_
    intro h86 H87
    replace H87 : own_H Z h86 (own_CN a81 (.double (FP.i2d (za 4))) .null (.int (0 : Int32)) (.int (1 : Int32)) :: own_CN a72 (.double (FP.i2d (za 3))) .null (.int (0 : Int32)) (.int (1 : Int32)) :: own_CN a63 (.double (FP.i2d (za 2))) .null (.int (0 : Int32)) (.int (1 : Int32)) :: own_CN a54 (.double (FP.i2d (za 1))) .null (.int (0 : Int32)) (.int (1 : Int32)) :: own_CN a45 (.double (FP.i2d (za 0))) .null (.int (0 : Int32)) (.int (1 : Int32)) :: []) ((a42, (.object "com/example/slotwise/slotwise/Simulation$Connection"), "[Lcom/example/slotwise/slotwise/Simulation$Connection;", [(.ref a45), (.ref a54), (.ref a63), (.ref a72), (.ref a81), .null]) :: (a3, .int, "[I", [(.int (za 0)), (.int (za 1)), (.int (za 2)), (.int (za 3)), (.int (za 4)), (.int (za 5))]) :: []) := H87
    refine own_aload K own_d11_150 rfl rfl ?_
    refine own_iconst K own_d11_152 (v := (5 : Int32)) rfl ?_
    refine own_new K own_d11_153 (own_w6 hw) (own_w8 hw) (own_w9 hw) H87 (own_CN_F hw) (own_CN_P hw) (by decide) (by decide) ?_
    intro h88 a90 H89
    replace H89 : own_H Z h88 (own_CN a90 (.double (0 : UInt64)) .null (.int (0 : Int32)) (.int (0 : Int32)) :: own_CN a81 (.double (FP.i2d (za 4))) .null (.int (0 : Int32)) (.int (1 : Int32)) :: own_CN a72 (.double (FP.i2d (za 3))) .null (.int (0 : Int32)) (.int (1 : Int32)) :: own_CN a63 (.double (FP.i2d (za 2))) .null (.int (0 : Int32)) (.int (1 : Int32)) :: own_CN a54 (.double (FP.i2d (za 1))) .null (.int (0 : Int32)) (.int (1 : Int32)) :: own_CN a45 (.double (FP.i2d (za 0))) .null (.int (0 : Int32)) (.int (1 : Int32)) :: []) ((a42, (.object "com/example/slotwise/slotwise/Simulation$Connection"), "[Lcom/example/slotwise/slotwise/Simulation$Connection;", [(.ref a45), (.ref a54), (.ref a63), (.ref a72), (.ref a81), .null]) :: (a3, .int, "[I", [(.int (za 0)), (.int (za 1)), (.int (za 2)), (.int (za 3)), (.int (za 4)), (.int (za 5))]) :: []) := H89
    refine own_dup K own_d11_156 rfl ?_
    refine own_aloadN K own_d11_157 rfl rfl ?_
    refine own_iconst K own_d11_158 (v := (5 : Int32)) rfl ?_
    refine own_iaload K own_d11_159 H89 (i := 1) rfl (q := 5) (by decide) (rfl) ?_
    refine own_i2d K own_d11_160 ?_
    refine own_aconstNull K own_d11_161 ?_
    refine own_iconst K own_d11_162 (v := (0 : Int32)) rfl ?_
    refine own_iconst K own_d11_163 (v := (1 : Int32)) rfl ?_
    refine own_special K own_d11_164 rfl (own_w10 hw) (own_w11 hw) (own_w9 hw) (own_w12 hw) (a := a90) (argsL := [(.double (FP.i2d (za 5))), .null, (.int (0 : Int32)), (.int (1 : Int32))]) (rest := [(.ref a90), (.int (5 : Int32)), (.ref a42)]) (own_ni hw H89) own_pd4 rfl rfl rfl (by decide) (W := 3) (Nat.le_of_eq rfl) (by decide) (by decide) (by decide) (by decide) ?_
    intro v93 h91 q92
    obtain ⟨rfl, H94⟩ := q92
    replace H94 : own_H Z h91 (own_CN a90 (.double (FP.i2d (za 5))) .null (.int (0 : Int32)) (.int (1 : Int32)) :: own_CN a81 (.double (FP.i2d (za 4))) .null (.int (0 : Int32)) (.int (1 : Int32)) :: own_CN a72 (.double (FP.i2d (za 3))) .null (.int (0 : Int32)) (.int (1 : Int32)) :: own_CN a63 (.double (FP.i2d (za 2))) .null (.int (0 : Int32)) (.int (1 : Int32)) :: own_CN a54 (.double (FP.i2d (za 1))) .null (.int (0 : Int32)) (.int (1 : Int32)) :: own_CN a45 (.double (FP.i2d (za 0))) .null (.int (0 : Int32)) (.int (1 : Int32)) :: []) ((a42, (.object "com/example/slotwise/slotwise/Simulation$Connection"), "[Lcom/example/slotwise/slotwise/Simulation$Connection;", [(.ref a45), (.ref a54), (.ref a63), (.ref a72), (.ref a81), .null]) :: (a3, .int, "[I", [(.int (za 0)), (.int (za 1)), (.int (za 2)), (.int (za 3)), (.int (za 4)), (.int (za 5))]) :: []) := H94
    refine own_aastoreR K own_d11_167 H94 (i := 0) rfl (by decide) (Ins.self (H94.atO (i := 0) rfl)) (q := 5) (by decide) (own_le rfl) ?_
    intro h95 H96
    replace H96 : own_H Z h95 (own_CN a90 (.double (FP.i2d (za 5))) .null (.int (0 : Int32)) (.int (1 : Int32)) :: own_CN a81 (.double (FP.i2d (za 4))) .null (.int (0 : Int32)) (.int (1 : Int32)) :: own_CN a72 (.double (FP.i2d (za 3))) .null (.int (0 : Int32)) (.int (1 : Int32)) :: own_CN a63 (.double (FP.i2d (za 2))) .null (.int (0 : Int32)) (.int (1 : Int32)) :: own_CN a54 (.double (FP.i2d (za 1))) .null (.int (0 : Int32)) (.int (1 : Int32)) :: own_CN a45 (.double (FP.i2d (za 0))) .null (.int (0 : Int32)) (.int (1 : Int32)) :: []) ((a42, (.object "com/example/slotwise/slotwise/Simulation$Connection"), "[Lcom/example/slotwise/slotwise/Simulation$Connection;", [(.ref a45), (.ref a54), (.ref a63), (.ref a72), (.ref a81), (.ref a90)]) :: (a3, .int, "[I", [(.int (za 0)), (.int (za 1)), (.int (za 2)), (.int (za 3)), (.int (za 4)), (.int (za 5))]) :: []) := H96
    obtain ⟨aa, ea0, ea1, ea2, ea3, ea4, ea5⟩ : ∃ aa : Nat → Addr, a45 = aa 0 ∧ a54 = aa 1 ∧ a63 = aa 2 ∧ a72 = aa 3 ∧ a81 = aa 4 ∧ a90 = aa 5 := ⟨fun j => [a45, a54, a63, a72, a81, a90].getD j 0, rfl, rfl, rfl, rfl, rfl, rfl⟩
    subst ea0 ea1 ea2 ea3 ea4 ea5
    replace H96 : own_H Z h95 (own_CN (aa 5) (.double (FP.i2d (za 5))) .null (.int (0 : Int32)) (.int (1 : Int32)) :: own_CN (aa 4) (.double (FP.i2d (za 4))) .null (.int (0 : Int32)) (.int (1 : Int32)) :: own_CN (aa 3) (.double (FP.i2d (za 3))) .null (.int (0 : Int32)) (.int (1 : Int32)) :: own_CN (aa 2) (.double (FP.i2d (za 2))) .null (.int (0 : Int32)) (.int (1 : Int32)) :: own_CN (aa 1) (.double (FP.i2d (za 1))) .null (.int (0 : Int32)) (.int (1 : Int32)) :: own_CN (aa 0) (.double (FP.i2d (za 0))) .null (.int (0 : Int32)) (.int (1 : Int32)) :: []) ((a42, (.object "com/example/slotwise/slotwise/Simulation$Connection"), "[Lcom/example/slotwise/slotwise/Simulation$Connection;", [(.ref (aa 0)), (.ref (aa 1)), (.ref (aa 2)), (.ref (aa 3)), (.ref (aa 4)), (.ref (aa 5))]) :: (a3, .int, "[I", [(.int (za 0)), (.int (za 1)), (.int (za 2)), (.int (za 3)), (.int (za 4)), (.int (za 5))]) :: []) := H96
    have n01 : aa 0 ≠ aa 1 := H96.neOO (i := 5) (j := 4) rfl rfl (by decide)
    have n02 : aa 0 ≠ aa 2 := H96.neOO (i := 5) (j := 3) rfl rfl (by decide)
    have n03 : aa 0 ≠ aa 3 := H96.neOO (i := 5) (j := 2) rfl rfl (by decide)
    have n04 : aa 0 ≠ aa 4 := H96.neOO (i := 5) (j := 1) rfl rfl (by decide)
    have n05 : aa 0 ≠ aa 5 := H96.neOO (i := 5) (j := 0) rfl rfl (by decide)
    have n12 : aa 1 ≠ aa 2 := H96.neOO (i := 4) (j := 3) rfl rfl (by decide)
    have n13 : aa 1 ≠ aa 3 := H96.neOO (i := 4) (j := 2) rfl rfl (by decide)
    have n14 : aa 1 ≠ aa 4 := H96.neOO (i := 4) (j := 1) rfl rfl (by decide)
    have n15 : aa 1 ≠ aa 5 := H96.neOO (i := 4) (j := 0) rfl rfl (by decide)
    have n23 : aa 2 ≠ aa 3 := H96.neOO (i := 3) (j := 2) rfl rfl (by decide)
    have n24 : aa 2 ≠ aa 4 := H96.neOO (i := 3) (j := 1) rfl rfl (by decide)
    have n25 : aa 2 ≠ aa 5 := H96.neOO (i := 3) (j := 0) rfl rfl (by decide)
    have n34 : aa 3 ≠ aa 4 := H96.neOO (i := 2) (j := 1) rfl rfl (by decide)
    have n35 : aa 3 ≠ aa 5 := H96.neOO (i := 2) (j := 0) rfl rfl (by decide)
    have n45 : aa 4 ≠ aa 5 := H96.neOO (i := 1) (j := 0) rfl rfl (by decide)
    have hne : ∀ i j, i < 6 → j < 6 → i ≠ j → aa i ≠ aa j := by intro i j hi hj hij; rcases own_lt6 hi with q' | q' | q' | q' | q' | q' <;> rcases own_lt6 hj with r' | r' | r' | r' | r' | r' <;> subst q' <;> subst r' <;> first | exact absurd rfl hij | assumption | (apply Ne.symm; assumption)
    have ho : ∀ j, j < 6 → ∃ i : Nat, ((own_CN (aa 5) (.double (FP.i2d (za 5))) .null (.int (0 : Int32)) (.int (1 : Int32)) :: own_CN (aa 4) (.double (FP.i2d (za 4))) .null (.int (0 : Int32)) (.int (1 : Int32)) :: own_CN (aa 3) (.double (FP.i2d (za 3))) .null (.int (0 : Int32)) (.int (1 : Int32)) :: own_CN (aa 2) (.double (FP.i2d (za 2))) .null (.int (0 : Int32)) (.int (1 : Int32)) :: own_CN (aa 1) (.double (FP.i2d (za 1))) .null (.int (0 : Int32)) (.int (1 : Int32)) :: own_CN (aa 0) (.double (FP.i2d (za 0))) .null (.int (0 : Int32)) (.int (1 : Int32)) :: []) : List own_O)[i]? = some (own_c aa za j) := by intro j hj; rcases own_lt6 hj with q' | q' | q' | q' | q' | q' <;> subst q' <;> first | exact ⟨0, rfl⟩ | exact ⟨1, rfl⟩ | exact ⟨2, rfl⟩ | exact ⟨3, rfl⟩ | exact ⟨4, rfl⟩ | exact ⟨5, rfl⟩
    refine own_iloadN K own_d11_168 rfl ?_
    refine own_iconst K own_d11_169 (v := (3 : Int32)) rfl ?_
    refine own_iand K own_d11_170 ?_
    refine own_topI (x' := (0 : Int32)) (q) ?_
    refine own_istore K own_d11_171 (Ls' := #[.val (.long pk), .second, .val (.int mo), .val (.ref a3), .val (.ref a42), .val (.int (0 : Int32)), .unset, .unset, .unset, .unset, .unset, .unset, .unset, .unset, .unset, .unset, .unset, .unset, .unset, .unset, .unset, .unset, .unset, .unset, .unset, .unset, .unset]) rfl ?_
    refine own_iload K own_d11_173 rfl ?_
    refine own_ifne K own_d11_175 (fun q => absurd q (by decide)) (fun _ => ?_)
    refine own_bipush K own_d11_178 (v := (6 : Int32)) rfl ?_
    refine own_goto K own_d11_180 ?_
    refine own_istore K own_d11_204 (Ls' := #[.val (.long pk), .second, .val (.int mo), .val (.ref a3), .val (.ref a42), .val (.int (0 : Int32)), .val (.int (6 : Int32)), .unset, .unset, .unset, .unset, .unset, .unset, .unset, .unset, .unset, .unset, .unset, .unset, .unset, .unset, .unset, .unset, .unset, .unset, .unset, .unset]) rfl ?_
    refine own_new K own_d11_206 (own_w30 hw) (own_w31 hw) (own_w32 hw) H96 (own_DP_F hw) (own_DP_P hw) (by decide) (by decide) ?_
    intro h97 a99 H98
    replace H98 : own_H Z h97 (own_DP a99 .null .null (.int (0 : Int32)) :: own_CN (aa 5) (.double (FP.i2d (za 5))) .null (.int (0 : Int32)) (.int (1 : Int32)) :: own_CN (aa 4) (.double (FP.i2d (za 4))) .null (.int (0 : Int32)) (.int (1 : Int32)) :: own_CN (aa 3) (.double (FP.i2d (za 3))) .null (.int (0 : Int32)) (.int (1 : Int32)) :: own_CN (aa 2) (.double (FP.i2d (za 2))) .null (.int (0 : Int32)) (.int (1 : Int32)) :: own_CN (aa 1) (.double (FP.i2d (za 1))) .null (.int (0 : Int32)) (.int (1 : Int32)) :: own_CN (aa 0) (.double (FP.i2d (za 0))) .null (.int (0 : Int32)) (.int (1 : Int32)) :: []) ((a42, (.object "com/example/slotwise/slotwise/Simulation$Connection"), "[Lcom/example/slotwise/slotwise/Simulation$Connection;", [(.ref (aa 0)), (.ref (aa 1)), (.ref (aa 2)), (.ref (aa 3)), (.ref (aa 4)), (.ref (aa 5))]) :: (a3, .int, "[I", [(.int (za 0)), (.int (za 1)), (.int (za 2)), (.int (za 3)), (.int (za 4)), (.int (za 5))]) :: []) := H98
    refine own_dup K own_d11_209 rfl ?_
    refine own_special K own_d11_210 rfl (own_w33 hw) (own_w34 hw) (own_w32 hw) (own_w35 hw) (a := a99) (argsL := []) (rest := [(.ref a99)]) (own_di hw H98) own_pd1 rfl rfl rfl (by decide) (W := 1) (Nat.le_of_eq rfl) (by decide) (by decide) (by decide) (by decide) ?_
    intro v102 h100 q101
    obtain ⟨rfl, ta104, ca105, H103⟩ := q101
    replace H103 : own_H Z h100 (own_DP a99 (.ref ta104) (.ref ca105) (.int (0 : Int32)) :: own_CN (aa 5) (.double (FP.i2d (za 5))) .null (.int (0 : Int32)) (.int (1 : Int32)) :: own_CN (aa 4) (.double (FP.i2d (za 4))) .null (.int (0 : Int32)) (.int (1 : Int32)) :: own_CN (aa 3) (.double (FP.i2d (za 3))) .null (.int (0 : Int32)) (.int (1 : Int32)) :: own_CN (aa 2) (.double (FP.i2d (za 2))) .null (.int (0 : Int32)) (.int (1 : Int32)) :: own_CN (aa 1) (.double (FP.i2d (za 1))) .null (.int (0 : Int32)) (.int (1 : Int32)) :: own_CN (aa 0) (.double (FP.i2d (za 0))) .null (.int (0 : Int32)) (.int (1 : Int32)) :: []) ((ta104, .double, "[D", ((.double (0 : UInt64)) :: (.double (0 : UInt64)) :: (.double (0 : UInt64)) :: (.double (0 : UInt64)) :: (.double (0 : UInt64)) :: (.double (0 : UInt64)) :: (List.replicate 58 (.double (0 : UInt64))))) :: (ca105, (.object "com/example/slotwise/slotwise/Simulation$Connection"), "[Lcom/example/slotwise/slotwise/Simulation$Connection;", (.null :: .null :: .null :: .null :: .null :: .null :: (List.replicate 58 .null))) :: (a42, (.object "com/example/slotwise/slotwise/Simulation$Connection"), "[Lcom/example/slotwise/slotwise/Simulation$Connection;", [(.ref (aa 0)), (.ref (aa 1)), (.ref (aa 2)), (.ref (aa 3)), (.ref (aa 4)), (.ref (aa 5))]) :: (a3, .int, "[I", [(.int (za 0)), (.int (za 1)), (.int (za 2)), (.int (za 3)), (.int (za 4)), (.int (za 5))]) :: []) := H103
    refine own_astore K own_d11_213 rfl (Ls' := #[.val (.long pk), .second, .val (.int mo), .val (.ref a3), .val (.ref a42), .val (.int (0 : Int32)), .val (.int (6 : Int32)), .val (.ref a99), .unset, .unset, .unset, .unset, .unset, .unset, .unset, .unset, .unset, .unset, .unset, .unset, .unset, .unset, .unset, .unset, .unset, .unset, .unset]) rfl ?_
    refine own_aload K own_d11_215 rfl rfl ?_
    refine own_aload K own_d11_217 rfl rfl ?_
    refine own_iconst K own_d11_219 (v := (0 : Int32)) rfl ?_
    refine own_aaload K own_d11_220 H103 (i := 2) rfl rfl (q := 0) (by decide) (rfl) ?_
    refine own_virtual K own_d11_221 (own_w43 hw) (own_w44 hw) (own_w46 hw) (own_w45 hw) (own_w32 hw) (own_w47 hw) (H103.atO (i := 0) rfl) (a := a99) (argsL := [(.ref (aa 0))]) (rest := []) (own_add0 hw (j := 0) (by rfl) H103 ho (by decide)  ) own_pd5 rfl rfl rfl (by decide) (W := 0) (Nat.le_of_eq rfl) (by decide) (by decide) (by decide) (by decide) ?_
    intro v108 h106 q107
    obtain ⟨rfl, k109, pm110, ltk109, H111⟩ := q107
    have PM112 : List.Perm [k109] [0] := ((List.Perm.append_left [] pm110).trans List.perm_middle).trans (List.Perm.cons 0 (List.Perm.nil : List.Perm ([] : List Nat) []))
    replace H111 : own_H Z h106 (own_DP a99 (.ref ta104) (.ref ca105) (.int (1 : Int32)) :: own_CN (aa 5) (.double (FP.i2d (za 5))) .null (.int (0 : Int32)) (.int (1 : Int32)) :: own_CN (aa 4) (.double (FP.i2d (za 4))) .null (.int (0 : Int32)) (.int (1 : Int32)) :: own_CN (aa 3) (.double (FP.i2d (za 3))) .null (.int (0 : Int32)) (.int (1 : Int32)) :: own_CN (aa 2) (.double (FP.i2d (za 2))) .null (.int (0 : Int32)) (.int (1 : Int32)) :: own_CN (aa 1) (.double (FP.i2d (za 1))) .null (.int (0 : Int32)) (.int (1 : Int32)) :: own_CN (aa 0) (.double (FP.i2d (za 0))) .null (.int (0 : Int32)) (.int (1 : Int32)) :: []) ((ta104, .double, "[D", ((.double (FP.i2d (za k109))) :: (.double (0 : UInt64)) :: (.double (0 : UInt64)) :: (.double (0 : UInt64)) :: (.double (0 : UInt64)) :: (.double (0 : UInt64)) :: (List.replicate 58 (.double (0 : UInt64))))) :: (ca105, (.object "com/example/slotwise/slotwise/Simulation$Connection"), "[Lcom/example/slotwise/slotwise/Simulation$Connection;", ((.ref (aa k109)) :: .null :: .null :: .null :: .null :: .null :: (List.replicate 58 .null))) :: (a42, (.object "com/example/slotwise/slotwise/Simulation$Connection"), "[Lcom/example/slotwise/slotwise/Simulation$Connection;", [(.ref (aa 0)), (.ref (aa 1)), (.ref (aa 2)), (.ref (aa 3)), (.ref (aa 4)), (.ref (aa 5))]) :: (a3, .int, "[I", [(.int (za 0)), (.int (za 1)), (.int (za 2)), (.int (za 3)), (.int (za 4)), (.int (za 5))]) :: []) := H111
    refine own_iload K own_d11_224 rfl ?_
    refine own_iconst K own_d11_226 (v := (1 : Int32)) rfl ?_
    refine own_icmple K own_d11_227 (fun q => absurd q (by decide)) (fun _ => ?_)
    refine own_aload K own_d11_230 rfl rfl ?_
    refine own_aload K own_d11_232 rfl rfl ?_
    refine own_iconst K own_d11_234 (v := (1 : Int32)) rfl ?_
    refine own_aaload K own_d11_235 H111 (i := 2) rfl rfl (q := 1) (by decide) (rfl) ?_
    refine own_virtual K own_d11_236 (own_w43 hw) (own_w44 hw) (own_w46 hw) (own_w45 hw) (own_w32 hw) (own_w47 hw) (H111.atO (i := 0) rfl) (a := a99) (argsL := [(.ref (aa 1))]) (rest := []) (own_add1 hw (j := 1) (by rfl) H111 ho (by decide) ltk109 ) own_pd5 rfl rfl rfl (by decide) (W := 0) (Nat.le_of_eq rfl) (by decide) (by decide) (by decide) (by decide) ?_
    intro v115 h113 q114
    obtain ⟨rfl, k116, k117, pm118, hp120, ltk116, ltk117, H119⟩ := q114
    have PM121 : List.Perm [k116, k117] [1, 0] := ((List.Perm.append_left [] pm118).trans List.perm_middle).trans (List.Perm.cons 1 PM112)
    replace H119 : own_H Z h113 (own_DP a99 (.ref ta104) (.ref ca105) (.int (2 : Int32)) :: own_CN (aa 5) (.double (FP.i2d (za 5))) .null (.int (0 : Int32)) (.int (1 : Int32)) :: own_CN (aa 4) (.double (FP.i2d (za 4))) .null (.int (0 : Int32)) (.int (1 : Int32)) :: own_CN (aa 3) (.double (FP.i2d (za 3))) .null (.int (0 : Int32)) (.int (1 : Int32)) :: own_CN (aa 2) (.double (FP.i2d (za 2))) .null (.int (0 : Int32)) (.int (1 : Int32)) :: own_CN (aa 1) (.double (FP.i2d (za 1))) .null (.int (0 : Int32)) (.int (1 : Int32)) :: own_CN (aa 0) (.double (FP.i2d (za 0))) .null (.int (0 : Int32)) (.int (1 : Int32)) :: []) ((ta104, .double, "[D", ((.double (FP.i2d (za k116))) :: (.double (FP.i2d (za k117))) :: (.double (0 : UInt64)) :: (.double (0 : UInt64)) :: (.double (0 : UInt64)) :: (.double (0 : UInt64)) :: (List.replicate 58 (.double (0 : UInt64))))) :: (ca105, (.object "com/example/slotwise/slotwise/Simulation$Connection"), "[Lcom/example/slotwise/slotwise/Simulation$Connection;", ((.ref (aa k116)) :: (.ref (aa k117)) :: .null :: .null :: .null :: .null :: (List.replicate 58 .null))) :: (a42, (.object "com/example/slotwise/slotwise/Simulation$Connection"), "[Lcom/example/slotwise/slotwise/Simulation$Connection;", [(.ref (aa 0)), (.ref (aa 1)), (.ref (aa 2)), (.ref (aa 3)), (.ref (aa 4)), (.ref (aa 5))]) :: (a3, .int, "[I", [(.int (za 0)), (.int (za 1)), (.int (za 2)), (.int (za 3)), (.int (za 4)), (.int (za 5))]) :: []) := H119
    refine own_iload K own_d11_239 rfl ?_
    refine own_iconst K own_d11_241 (v := (2 : Int32)) rfl ?_
    refine own_icmple K own_d11_242 (fun q => absurd q (by decide)) (fun _ => ?_)
    refine own_aload K own_d11_245 rfl rfl ?_
    refine own_aload K own_d11_247 rfl rfl ?_
    refine own_iconst K own_d11_249 (v := (2 : Int32)) rfl ?_
    refine own_aaload K own_d11_250 H119 (i := 2) rfl rfl (q := 2) (by decide) (rfl) ?_
    refine own_virtual K own_d11_251 (own_w43 hw) (own_w44 hw) (own_w46 hw) (own_w45 hw) (own_w32 hw) (own_w47 hw) (H119.atO (i := 0) rfl) (a := a99) (argsL := [(.ref (aa 2))]) (rest := []) (own_add2 hw (j := 2) (by rfl) H119 ho (by decide) ltk116 ltk117 hp120) own_pd5 rfl rfl rfl (by decide) (W := 0) (Nat.le_of_eq rfl) (by decide) (by decide) (by decide) (by decide) ?_
    intro v124 h122 q123
    obtain ⟨rfl, k125, k126, k127, pm128, hp130, hp131, ltk125, ltk126, ltk127, H129⟩ := q123
    have PM132 : List.Perm [k125, k126, k127] [2, 1, 0] := ((List.Perm.append_left [] pm128).trans List.perm_middle).trans (List.Perm.cons 2 PM121)
    replace H129 : own_H Z h122 (own_DP a99 (.ref ta104) (.ref ca105) (.int (3 : Int32)) :: own_CN (aa 5) (.double (FP.i2d (za 5))) .null (.int (0 : Int32)) (.int (1 : Int32)) :: own_CN (aa 4) (.double (FP.i2d (za 4))) .null (.int (0 : Int32)) (.int (1 : Int32)) :: own_CN (aa 3) (.double (FP.i2d (za 3))) .null (.int (0 : Int32)) (.int (1 : Int32)) :: own_CN (aa 2) (.double (FP.i2d (za 2))) .null (.int (0 : Int32)) (.int (1 : Int32)) :: own_CN (aa 1) (.double (FP.i2d (za 1))) .null (.int (0 : Int32)) (.int (1 : Int32)) :: own_CN (aa 0) (.double (FP.i2d (za 0))) .null (.int (0 : Int32)) (.int (1 : Int32)) :: []) ((ta104, .double, "[D", ((.double (FP.i2d (za k125))) :: (.double (FP.i2d (za k126))) :: (.double (FP.i2d (za k127))) :: (.double (0 : UInt64)) :: (.double (0 : UInt64)) :: (.double (0 : UInt64)) :: (List.replicate 58 (.double (0 : UInt64))))) :: (ca105, (.object "com/example/slotwise/slotwise/Simulation$Connection"), "[Lcom/example/slotwise/slotwise/Simulation$Connection;", ((.ref (aa k125)) :: (.ref (aa k126)) :: (.ref (aa k127)) :: .null :: .null :: .null :: (List.replicate 58 .null))) :: (a42, (.object "com/example/slotwise/slotwise/Simulation$Connection"), "[Lcom/example/slotwise/slotwise/Simulation$Connection;", [(.ref (aa 0)), (.ref (aa 1)), (.ref (aa 2)), (.ref (aa 3)), (.ref (aa 4)), (.ref (aa 5))]) :: (a3, .int, "[I", [(.int (za 0)), (.int (za 1)), (.int (za 2)), (.int (za 3)), (.int (za 4)), (.int (za 5))]) :: []) := H129
    refine own_iload K own_d11_254 rfl ?_
    refine own_iconst K own_d11_256 (v := (3 : Int32)) rfl ?_
    refine own_icmple K own_d11_257 (fun q => absurd q (by decide)) (fun _ => ?_)
    refine own_aload K own_d11_260 rfl rfl ?_
    refine own_aload K own_d11_262 rfl rfl ?_
    refine own_iconst K own_d11_264 (v := (3 : Int32)) rfl ?_
    refine own_aaload K own_d11_265 H129 (i := 2) rfl rfl (q := 3) (by decide) (rfl) ?_
    refine own_virtual K own_d11_266 (own_w43 hw) (own_w44 hw) (own_w46 hw) (own_w45 hw) (own_w32 hw) (own_w47 hw) (H129.atO (i := 0) rfl) (a := a99) (argsL := [(.ref (aa 3))]) (rest := []) (own_add3 hw (j := 3) (by rfl) H129 ho (by decide) ltk125 ltk126 ltk127 hp130 hp131) own_pd5 rfl rfl rfl (by decide) (W := 0) (Nat.le_of_eq rfl) (by decide) (by decide) (by decide) (by decide) ?_
    intro v135 h133 q134
    obtain ⟨rfl, k136, k137, k138, k139, pm140, hp142, hp143, hp144, ltk136, ltk137, ltk138, ltk139, H141⟩ := q134
    have PM145 : List.Perm [k136, k137, k138, k139] [3, 2, 1, 0] := ((List.Perm.append_left [] pm140).trans List.perm_middle).trans (List.Perm.cons 3 PM132)
    replace H141 : own_H Z h133 (own_DP a99 (.ref ta104) (.ref ca105) (.int (4 : Int32)) :: own_CN (aa 5) (.double (FP.i2d (za 5))) .null (.int (0 : Int32)) (.int (1 : Int32)) :: own_CN (aa 4) (.double (FP.i2d (za 4))) .null (.int (0 : Int32)) (.int (1 : Int32)) :: own_CN (aa 3) (.double (FP.i2d (za 3))) .null (.int (0 : Int32)) (.int (1 : Int32)) :: own_CN (aa 2) (.double (FP.i2d (za 2))) .null (.int (0 : Int32)) (.int (1 : Int32)) :: own_CN (aa 1) (.double (FP.i2d (za 1))) .null (.int (0 : Int32)) (.int (1 : Int32)) :: own_CN (aa 0) (.double (FP.i2d (za 0))) .null (.int (0 : Int32)) (.int (1 : Int32)) :: []) ((ta104, .double, "[D", ((.double (FP.i2d (za k136))) :: (.double (FP.i2d (za k137))) :: (.double (FP.i2d (za k138))) :: (.double (FP.i2d (za k139))) :: (.double (0 : UInt64)) :: (.double (0 : UInt64)) :: (List.replicate 58 (.double (0 : UInt64))))) :: (ca105, (.object "com/example/slotwise/slotwise/Simulation$Connection"), "[Lcom/example/slotwise/slotwise/Simulation$Connection;", ((.ref (aa k136)) :: (.ref (aa k137)) :: (.ref (aa k138)) :: (.ref (aa k139)) :: .null :: .null :: (List.replicate 58 .null))) :: (a42, (.object "com/example/slotwise/slotwise/Simulation$Connection"), "[Lcom/example/slotwise/slotwise/Simulation$Connection;", [(.ref (aa 0)), (.ref (aa 1)), (.ref (aa 2)), (.ref (aa 3)), (.ref (aa 4)), (.ref (aa 5))]) :: (a3, .int, "[I", [(.int (za 0)), (.int (za 1)), (.int (za 2)), (.int (za 3)), (.int (za 4)), (.int (za 5))]) :: []) := H141
    refine own_iload K own_d11_269 rfl ?_
    refine own_iconst K own_d11_271 (v := (4 : Int32)) rfl ?_
    refine own_icmple K own_d11_272 (fun q => absurd q (by decide)) (fun _ => ?_)
    refine own_aload K own_d11_275 rfl rfl ?_
    refine own_aload K own_d11_277 rfl rfl ?_
    refine own_iconst K own_d11_279 (v := (4 : Int32)) rfl ?_
    refine own_aaload K own_d11_280 H141 (i := 2) rfl rfl (q := 4) (by decide) (rfl) ?_
    refine own_virtual K own_d11_281 (own_w43 hw) (own_w44 hw) (own_w46 hw) (own_w45 hw) (own_w32 hw) (own_w47 hw) (H141.atO (i := 0) rfl) (a := a99) (argsL := [(.ref (aa 4))]) (rest := []) (own_add4 hw (j := 4) (by rfl) H141 ho (by decide) ltk136 ltk137 ltk138 ltk139 hp142 hp143 hp144) own_pd5 rfl rfl rfl (by decide) (W := 0) (Nat.le_of_eq rfl) (by decide) (by decide) (by decide) (by decide) ?_
    intro v148 h146 q147
    obtain ⟨rfl, k149, k150, k151, k152, k153, pm154, hp156, hp157, hp158, hp159, ltk149, ltk150, ltk151, ltk152, ltk153, H155⟩ := q147
    have PM160 : List.Perm [k149, k150, k151, k152, k153] [4, 3, 2, 1, 0] := ((List.Perm.append_left [] pm154).trans List.perm_middle).trans (List.Perm.cons 4 PM145)
    replace H155 : own_H Z h146 (own_DP a99 (.ref ta104) (.ref ca105) (.int (5 : Int32)) :: own_CN (aa 5) (.double (FP.i2d (za 5))) .null (.int (0 : Int32)) (.int (1 : Int32)) :: own_CN (aa 4) (.double (FP.i2d (za 4))) .null (.int (0 : Int32)) (.int (1 : Int32)) :: own_CN (aa 3) (.double (FP.i2d (za 3))) .null (.int (0 : Int32)) (.int (1 : Int32)) :: own_CN (aa 2) (.double (FP.i2d (za 2))) .null (.int (0 : Int32)) (.int (1 : Int32)) :: own_CN (aa 1) (.double (FP.i2d (za 1))) .null (.int (0 : Int32)) (.int (1 : Int32)) :: own_CN (aa 0) (.double (FP.i2d (za 0))) .null (.int (0 : Int32)) (.int (1 : Int32)) :: []) ((ta104, .double, "[D", ((.double (FP.i2d (za k149))) :: (.double (FP.i2d (za k150))) :: (.double (FP.i2d (za k151))) :: (.double (FP.i2d (za k152))) :: (.double (FP.i2d (za k153))) :: (.double (0 : UInt64)) :: (List.replicate 58 (.double (0 : UInt64))))) :: (ca105, (.object "com/example/slotwise/slotwise/Simulation$Connection"), "[Lcom/example/slotwise/slotwise/Simulation$Connection;", ((.ref (aa k149)) :: (.ref (aa k150)) :: (.ref (aa k151)) :: (.ref (aa k152)) :: (.ref (aa k153)) :: .null :: (List.replicate 58 .null))) :: (a42, (.object "com/example/slotwise/slotwise/Simulation$Connection"), "[Lcom/example/slotwise/slotwise/Simulation$Connection;", [(.ref (aa 0)), (.ref (aa 1)), (.ref (aa 2)), (.ref (aa 3)), (.ref (aa 4)), (.ref (aa 5))]) :: (a3, .int, "[I", [(.int (za 0)), (.int (za 1)), (.int (za 2)), (.int (za 3)), (.int (za 4)), (.int (za 5))]) :: []) := H155
    refine own_iload K own_d11_284 rfl ?_
    refine own_iconst K own_d11_286 (v := (5 : Int32)) rfl ?_
    refine own_icmple K own_d11_287 (fun q => absurd q (by decide)) (fun _ => ?_)
    refine own_aload K own_d11_290 rfl rfl ?_
    refine own_aload K own_d11_292 rfl rfl ?_
    refine own_iconst K own_d11_294 (v := (5 : Int32)) rfl ?_
    refine own_aaload K own_d11_295 H155 (i := 2) rfl rfl (q := 5) (by decide) (rfl) ?_
    refine own_virtual K own_d11_296 (own_w43 hw) (own_w44 hw) (own_w46 hw) (own_w45 hw) (own_w32 hw) (own_w47 hw) (H155.atO (i := 0) rfl) (a := a99) (argsL := [(.ref (aa 5))]) (rest := []) (own_add5 hw (j := 5) (by rfl) H155 ho (by decide) ltk149 ltk150 ltk151 ltk152 ltk153 hp156 hp157 hp158 hp159) own_pd5 rfl rfl rfl (by decide) (W := 0) (Nat.le_of_eq rfl) (by decide) (by decide) (by decide) (by decide) ?_
    intro v163 h161 q162
    obtain ⟨rfl, k164, k165, k166, k167, k168, k169, pm170, hp172, hp173, hp174, hp175, hp176, ltk164, ltk165, ltk166, ltk167, ltk168, ltk169, H171⟩ := q162
    have PM177 : List.Perm [k164, k165, k166, k167, k168, k169] [5, 4, 3, 2, 1, 0] := ((List.Perm.append_left [] pm170).trans List.perm_middle).trans (List.Perm.cons 5 PM160)
    replace H171 : own_H Z h161 (own_DP a99 (.ref ta104) (.ref ca105) (.int (6 : Int32)) :: own_CN (aa 5) (.double (FP.i2d (za 5))) .null (.int (0 : Int32)) (.int (1 : Int32)) :: own_CN (aa 4) (.double (FP.i2d (za 4))) .null (.int (0 : Int32)) (.int (1 : Int32)) :: own_CN (aa 3) (.double (FP.i2d (za 3))) .null (.int (0 : Int32)) (.int (1 : Int32)) :: own_CN (aa 2) (.double (FP.i2d (za 2))) .null (.int (0 : Int32)) (.int (1 : Int32)) :: own_CN (aa 1) (.double (FP.i2d (za 1))) .null (.int (0 : Int32)) (.int (1 : Int32)) :: own_CN (aa 0) (.double (FP.i2d (za 0))) .null (.int (0 : Int32)) (.int (1 : Int32)) :: []) ((ta104, .double, "[D", ((.double (FP.i2d (za k164))) :: (.double (FP.i2d (za k165))) :: (.double (FP.i2d (za k166))) :: (.double (FP.i2d (za k167))) :: (.double (FP.i2d (za k168))) :: (.double (FP.i2d (za k169))) :: (List.replicate 58 (.double (0 : UInt64))))) :: (ca105, (.object "com/example/slotwise/slotwise/Simulation$Connection"), "[Lcom/example/slotwise/slotwise/Simulation$Connection;", ((.ref (aa k164)) :: (.ref (aa k165)) :: (.ref (aa k166)) :: (.ref (aa k167)) :: (.ref (aa k168)) :: (.ref (aa k169)) :: (List.replicate 58 .null))) :: (a42, (.object "com/example/slotwise/slotwise/Simulation$Connection"), "[Lcom/example/slotwise/slotwise/Simulation$Connection;", [(.ref (aa 0)), (.ref (aa 1)), (.ref (aa 2)), (.ref (aa 3)), (.ref (aa 4)), (.ref (aa 5))]) :: (a3, .int, "[I", [(.int (za 0)), (.int (za 1)), (.int (za 2)), (.int (za 3)), (.int (za 4)), (.int (za 5))]) :: []) := H171
    refine own_aload K own_d11_299 rfl rfl ?_
    have q1b : k164 < 6 := by have hm := PM177.mem_iff.mp (List.mem_cons_self (a := k164)); simp only [List.mem_cons, List.not_mem_nil, or_false] at hm; omega
    have RM : ∀ i, i < 6 → (za k164).toInt ≤ (za i).toInt := by intro i hi; have hm : i ∈ [k164, k165, k166, k167, k168, k169] := PM177.mem_iff.mpr (by simp only [List.mem_cons, List.not_mem_nil, or_false]; omega); simp only [List.mem_cons, List.not_mem_nil, or_false] at hm; rcases hm with q' | q' | q' | q' | q' | q' <;> rw [q'] <;> omega
    refine own_virtual K own_d11_301 (own_w55 hw) (own_w56 hw) (own_w58 hw) (own_w57 hw) (own_w32 hw) (own_w59 hw) (H171.atO (i := 0) rfl) (a := a99) (argsL := []) (rest := []) (own_poll6 hw H171 ho ltk164 ltk165 ltk166 ltk167 ltk168 ltk169 hp172 hp173 hp174 hp175 hp176) own_pd6 rfl rfl rfl (by decide) (W := 0) (Nat.le_of_eq rfl) (by decide) (by decide) (by decide) (by decide) ?_
    intro v180 h178 q179
    obtain ⟨rfl, k181, k182, k183, k184, k185, pm186, hp188, hp189, hp190, hp191, le192, ltk181, ltk182, ltk183, ltk184, ltk185, H187⟩ := q179
    have PM193 : List.Perm [k164, k181, k182, k183, k184, k185] [5, 4, 3, 2, 1, 0] := (List.Perm.append_left [] (List.Perm.cons k164 pm186)).trans PM177
    replace H187 : own_H Z h178 (own_DP a99 (.ref ta104) (.ref ca105) (.int (5 : Int32)) :: own_CN (aa 5) (.double (FP.i2d (za 5))) .null (.int (0 : Int32)) (.int (1 : Int32)) :: own_CN (aa 4) (.double (FP.i2d (za 4))) .null (.int (0 : Int32)) (.int (1 : Int32)) :: own_CN (aa 3) (.double (FP.i2d (za 3))) .null (.int (0 : Int32)) (.int (1 : Int32)) :: own_CN (aa 2) (.double (FP.i2d (za 2))) .null (.int (0 : Int32)) (.int (1 : Int32)) :: own_CN (aa 1) (.double (FP.i2d (za 1))) .null (.int (0 : Int32)) (.int (1 : Int32)) :: own_CN (aa 0) (.double (FP.i2d (za 0))) .null (.int (0 : Int32)) (.int (1 : Int32)) :: []) ((ta104, .double, "[D", ((.double (FP.i2d (za k181))) :: (.double (FP.i2d (za k182))) :: (.double (FP.i2d (za k183))) :: (.double (FP.i2d (za k184))) :: (.double (FP.i2d (za k185))) :: (.double (FP.i2d (za k169))) :: (List.replicate 58 (.double (0 : UInt64))))) :: (ca105, (.object "com/example/slotwise/slotwise/Simulation$Connection"), "[Lcom/example/slotwise/slotwise/Simulation$Connection;", ((.ref (aa k181)) :: (.ref (aa k182)) :: (.ref (aa k183)) :: (.ref (aa k184)) :: (.ref (aa k185)) :: .null :: (List.replicate 58 .null))) :: (a42, (.object "com/example/slotwise/slotwise/Simulation$Connection"), "[Lcom/example/slotwise/slotwise/Simulation$Connection;", [(.ref (aa 0)), (.ref (aa 1)), (.ref (aa 2)), (.ref (aa 3)), (.ref (aa 4)), (.ref (aa 5))]) :: (a3, .int, "[I", [(.int (za 0)), (.int (za 1)), (.int (za 2)), (.int (za 3)), (.int (za 4)), (.int (za 5))]) :: []) := H187
    refine own_astore K own_d11_304 rfl (Ls' := #[.val (.long pk), .second, .val (.int mo), .val (.ref a3), .val (.ref a42), .val (.int (0 : Int32)), .val (.int (6 : Int32)), .val (.ref a99), .val (.ref (aa k164)), .unset, .unset, .unset, .unset, .unset, .unset, .unset, .unset, .unset, .unset, .unset, .unset, .unset, .unset, .unset, .unset, .unset, .unset]) rfl ?_
    refine own_iload K own_d11_306 rfl ?_
    refine own_iconst K own_d11_308 (v := (1 : Int32)) rfl ?_
    refine own_icmpgt K own_d11_309 (fun _ => ?_) (fun q => absurd (by decide) q)
    refine own_iload K own_d11_321 rfl ?_
    refine own_iconst K own_d11_323 (v := (2 : Int32)) rfl ?_
    refine own_icmpgt K own_d11_324 (fun _ => ?_) (fun q => absurd (by decide) q)
    refine own_iload K own_d11_336 rfl ?_
    refine own_iconst K own_d11_338 (v := (3 : Int32)) rfl ?_
    refine own_icmpgt K own_d11_339 (fun _ => ?_) (fun q => absurd (by decide) q)
    refine own_iload K own_d11_351 rfl ?_
    refine own_iconst K own_d11_353 (v := (4 : Int32)) rfl ?_
    refine own_icmpgt K own_d11_354 (fun _ => ?_) (fun q => absurd (by decide) q)
    refine own_iload K own_d11_366 rfl ?_
    refine own_iconst K own_d11_368 (v := (5 : Int32)) rfl ?_
    refine own_icmpgt K own_d11_369 (fun _ => ?_) (fun q => absurd (by decide) q)
    refine own_aload K own_d11_381 rfl rfl ?_
    refine own_virtual K own_d11_383 (own_w55 hw) (own_w56 hw) (own_w58 hw) (own_w57 hw) (own_w32 hw) (own_w59 hw) (H187.atO (i := 0) rfl) (a := a99) (argsL := []) (rest := []) (own_poll5 hw H187 ho ltk181 ltk182 ltk183 ltk184 ltk185 hp188 hp189 hp190 hp191) own_pd6 rfl rfl rfl (by decide) (W := 0) (Nat.le_of_eq rfl) (by decide) (by decide) (by decide) (by decide) ?_
    intro v196 h194 q195
    obtain ⟨rfl, k197, k198, k199, k200, pm201, hp203, hp204, hp205, le206, ltk197, ltk198, ltk199, ltk200, H202⟩ := q195
    have PM207 : List.Perm [k164, k181, k197, k198, k199, k200] [5, 4, 3, 2, 1, 0] := (List.Perm.append_left [k164] (List.Perm.cons k181 pm201)).trans PM193
    replace H202 : own_H Z h194 (own_DP a99 (.ref ta104) (.ref ca105) (.int (4 : Int32)) :: own_CN (aa 5) (.double (FP.i2d (za 5))) .null (.int (0 : Int32)) (.int (1 : Int32)) :: own_CN (aa 4) (.double (FP.i2d (za 4))) .null (.int (0 : Int32)) (.int (1 : Int32)) :: own_CN (aa 3) (.double (FP.i2d (za 3))) .null (.int (0 : Int32)) (.int (1 : Int32)) :: own_CN (aa 2) (.double (FP.i2d (za 2))) .null (.int (0 : Int32)) (.int (1 : Int32)) :: own_CN (aa 1) (.double (FP.i2d (za 1))) .null (.int (0 : Int32)) (.int (1 : Int32)) :: own_CN (aa 0) (.double (FP.i2d (za 0))) .null (.int (0 : Int32)) (.int (1 : Int32)) :: []) ((ta104, .double, "[D", ((.double (FP.i2d (za k197))) :: (.double (FP.i2d (za k198))) :: (.double (FP.i2d (za k199))) :: (.double (FP.i2d (za k200))) :: (.double (FP.i2d (za k185))) :: (.double (FP.i2d (za k169))) :: (List.replicate 58 (.double (0 : UInt64))))) :: (ca105, (.object "com/example/slotwise/slotwise/Simulation$Connection"), "[Lcom/example/slotwise/slotwise/Simulation$Connection;", ((.ref (aa k197)) :: (.ref (aa k198)) :: (.ref (aa k199)) :: (.ref (aa k200)) :: .null :: .null :: (List.replicate 58 .null))) :: (a42, (.object "com/example/slotwise/slotwise/Simulation$Connection"), "[Lcom/example/slotwise/slotwise/Simulation$Connection;", [(.ref (aa 0)), (.ref (aa 1)), (.ref (aa 2)), (.ref (aa 3)), (.ref (aa 4)), (.ref (aa 5))]) :: (a3, .int, "[I", [(.int (za 0)), (.int (za 1)), (.int (za 2)), (.int (za 3)), (.int (za 4)), (.int (za 5))]) :: []) := H202
    refine own_astore K own_d11_386 rfl (Ls' := #[.val (.long pk), .second, .val (.int mo), .val (.ref a3), .val (.ref a42), .val (.int (0 : Int32)), .val (.int (6 : Int32)), .val (.ref a99), .val (.ref (aa k164)), .val (.ref (aa k181)), .unset, .unset, .unset, .unset, .unset, .unset, .unset, .unset, .unset, .unset, .unset, .unset, .unset, .unset, .unset, .unset, .unset]) rfl ?_
    refine own_aload K own_d11_388 rfl rfl ?_
    refine own_virtual K own_d11_390 (own_w55 hw) (own_w56 hw) (own_w58 hw) (own_w57 hw) (own_w32 hw) (own_w59 hw) (H202.atO (i := 0) rfl) (a := a99) (argsL := []) (rest := []) (own_poll4 hw H202 ho ltk197 ltk198 ltk199 ltk200 hp203 hp204 hp205) own_pd6 rfl rfl rfl (by decide) (W := 0) (Nat.le_of_eq rfl) (by decide) (by decide) (by decide) (by decide) ?_
    intro v210 h208 q209
    obtain ⟨rfl, k211, k212, k213, pm214, hp216, hp217, le218, ltk211, ltk212, ltk213, H215⟩ := q209
    have PM219 : List.Perm [k164, k181, k197, k211, k212, k213] [5, 4, 3, 2, 1, 0] := (List.Perm.append_left [k164, k181] (List.Perm.cons k197 pm214)).trans PM207
    replace H215 : own_H Z h208 (own_DP a99 (.ref ta104) (.ref ca105) (.int (3 : Int32)) :: own_CN (aa 5) (.double (FP.i2d (za 5))) .null (.int (0 : Int32)) (.int (1 : Int32)) :: own_CN (aa 4) (.double (FP.i2d (za 4))) .null (.int (0 : Int32)) (.int (1 : Int32)) :: own_CN (aa 3) (.double (FP.i2d (za 3))) .null (.int (0 : Int32)) (.int (1 : Int32)) :: own_CN (aa 2) (.double (FP.i2d (za 2))) .null (.int (0 : Int32)) (.int (1 : Int32)) :: own_CN (aa 1) (.double (FP.i2d (za 1))) .null (.int (0 : Int32)) (.int (1 : Int32)) :: own_CN (aa 0) (.double (FP.i2d (za 0))) .null (.int (0 : Int32)) (.int (1 : Int32)) :: []) ((ta104, .double, "[D", ((.double (FP.i2d (za k211))) :: (.double (FP.i2d (za k212))) :: (.double (FP.i2d (za k213))) :: (.double (FP.i2d (za k200))) :: (.double (FP.i2d (za k185))) :: (.double (FP.i2d (za k169))) :: (List.replicate 58 (.double (0 : UInt64))))) :: (ca105, (.object "com/example/slotwise/slotwise/Simulation$Connection"), "[Lcom/example/slotwise/slotwise/Simulation$Connection;", ((.ref (aa k211)) :: (.ref (aa k212)) :: (.ref (aa k213)) :: .null :: .null :: .null :: (List.replicate 58 .null))) :: (a42, (.object "com/example/slotwise/slotwise/Simulation$Connection"), "[Lcom/example/slotwise/slotwise/Simulation$Connection;", [(.ref (aa 0)), (.ref (aa 1)), (.ref (aa 2)), (.ref (aa 3)), (.ref (aa 4)), (.ref (aa 5))]) :: (a3, .int, "[I", [(.int (za 0)), (.int (za 1)), (.int (za 2)), (.int (za 3)), (.int (za 4)), (.int (za 5))]) :: []) := H215
    refine own_astore K own_d11_393 rfl (Ls' := #[.val (.long pk), .second, .val (.int mo), .val (.ref a3), .val (.ref a42), .val (.int (0 : Int32)), .val (.int (6 : Int32)), .val (.ref a99), .val (.ref (aa k164)), .val (.ref (aa k181)), .val (.ref (aa k197)), .unset, .unset, .unset, .unset, .unset, .unset, .unset, .unset, .unset, .unset, .unset, .unset, .unset, .unset, .unset, .unset]) rfl ?_
    refine own_aload K own_d11_395 rfl rfl ?_
    refine own_virtual K own_d11_397 (own_w55 hw) (own_w56 hw) (own_w58 hw) (own_w57 hw) (own_w32 hw) (own_w59 hw) (H215.atO (i := 0) rfl) (a := a99) (argsL := []) (rest := []) (own_poll3 hw H215 ho ltk211 ltk212 ltk213 hp216 hp217) own_pd6 rfl rfl rfl (by decide) (W := 0) (Nat.le_of_eq rfl) (by decide) (by decide) (by decide) (by decide) ?_
    intro v222 h220 q221
    obtain ⟨rfl, k223, k224, pm225, hp227, le228, ltk223, ltk224, H226⟩ := q221
    have PM229 : List.Perm [k164, k181, k197, k211, k223, k224] [5, 4, 3, 2, 1, 0] := (List.Perm.append_left [k164, k181, k197] (List.Perm.cons k211 pm225)).trans PM219
    replace H226 : own_H Z h220 (own_DP a99 (.ref ta104) (.ref ca105) (.int (2 : Int32)) :: own_CN (aa 5) (.double (FP.i2d (za 5))) .null (.int (0 : Int32)) (.int (1 : Int32)) :: own_CN (aa 4) (.double (FP.i2d (za 4))) .null (.int (0 : Int32)) (.int (1 : Int32)) :: own_CN (aa 3) (.double (FP.i2d (za 3))) .null (.int (0 : Int32)) (.int (1 : Int32)) :: own_CN (aa 2) (.double (FP.i2d (za 2))) .null (.int (0 : Int32)) (.int (1 : Int32)) :: own_CN (aa 1) (.double (FP.i2d (za 1))) .null (.int (0 : Int32)) (.int (1 : Int32)) :: own_CN (aa 0) (.double (FP.i2d (za 0))) .null (.int (0 : Int32)) (.int (1 : Int32)) :: []) ((ta104, .double, "[D", ((.double (FP.i2d (za k223))) :: (.double (FP.i2d (za k224))) :: (.double (FP.i2d (za k213))) :: (.double (FP.i2d (za k200))) :: (.double (FP.i2d (za k185))) :: (.double (FP.i2d (za k169))) :: (List.replicate 58 (.double (0 : UInt64))))) :: (ca105, (.object "com/example/slotwise/slotwise/Simulation$Connection"), "[Lcom/example/slotwise/slotwise/Simulation$Connection;", ((.ref (aa k223)) :: (.ref (aa k224)) :: .null :: .null :: .null :: .null :: (List.replicate 58 .null))) :: (a42, (.object "com/example/slotwise/slotwise/Simulation$Connection"), "[Lcom/example/slotwise/slotwise/Simulation$Connection;", [(.ref (aa 0)), (.ref (aa 1)), (.ref (aa 2)), (.ref (aa 3)), (.ref (aa 4)), (.ref (aa 5))]) :: (a3, .int, "[I", [(.int (za 0)), (.int (za 1)), (.int (za 2)), (.int (za 3)), (.int (za 4)), (.int (za 5))]) :: []) := H226
    refine own_astore K own_d11_400 rfl (Ls' := #[.val (.long pk), .second, .val (.int mo), .val (.ref a3), .val (.ref a42), .val (.int (0 : Int32)), .val (.int (6 : Int32)), .val (.ref a99), .val (.ref (aa k164)), .val (.ref (aa k181)), .val (.ref (aa k197)), .val (.ref (aa k211)), .unset, .unset, .unset, .unset, .unset, .unset, .unset, .unset, .unset, .unset, .unset, .unset, .unset, .unset, .unset]) rfl ?_
    refine own_aload K own_d11_402 rfl rfl ?_
    refine own_virtual K own_d11_404 (own_w55 hw) (own_w56 hw) (own_w58 hw) (own_w57 hw) (own_w32 hw) (own_w59 hw) (H226.atO (i := 0) rfl) (a := a99) (argsL := []) (rest := []) (own_poll2 hw H226 ho ltk223 ltk224 hp227) own_pd6 rfl rfl rfl (by decide) (W := 0) (Nat.le_of_eq rfl) (by decide) (by decide) (by decide) (by decide) ?_
    intro v232 h230 q231
    obtain ⟨rfl, k233, pm234, le236, ltk233, H235⟩ := q231
    have PM237 : List.Perm [k164, k181, k197, k211, k223, k233] [5, 4, 3, 2, 1, 0] := (List.Perm.append_left [k164, k181, k197, k211] (List.Perm.cons k223 pm234)).trans PM229
    replace H235 : own_H Z h230 (own_DP a99 (.ref ta104) (.ref ca105) (.int (1 : Int32)) :: own_CN (aa 5) (.double (FP.i2d (za 5))) .null (.int (0 : Int32)) (.int (1 : Int32)) :: own_CN (aa 4) (.double (FP.i2d (za 4))) .null (.int (0 : Int32)) (.int (1 : Int32)) :: own_CN (aa 3) (.double (FP.i2d (za 3))) .null (.int (0 : Int32)) (.int (1 : Int32)) :: own_CN (aa 2) (.double (FP.i2d (za 2))) .null (.int (0 : Int32)) (.int (1 : Int32)) :: own_CN (aa 1) (.double (FP.i2d (za 1))) .null (.int (0 : Int32)) (.int (1 : Int32)) :: own_CN (aa 0) (.double (FP.i2d (za 0))) .null (.int (0 : Int32)) (.int (1 : Int32)) :: []) ((ta104, .double, "[D", ((.double (FP.i2d (za k233))) :: (.double (FP.i2d (za k224))) :: (.double (FP.i2d (za k213))) :: (.double (FP.i2d (za k200))) :: (.double (FP.i2d (za k185))) :: (.double (FP.i2d (za k169))) :: (List.replicate 58 (.double (0 : UInt64))))) :: (ca105, (.object "com/example/slotwise/slotwise/Simulation$Connection"), "[Lcom/example/slotwise/slotwise/Simulation$Connection;", ((.ref (aa k233)) :: .null :: .null :: .null :: .null :: .null :: (List.replicate 58 .null))) :: (a42, (.object "com/example/slotwise/slotwise/Simulation$Connection"), "[Lcom/example/slotwise/slotwise/Simulation$Connection;", [(.ref (aa 0)), (.ref (aa 1)), (.ref (aa 2)), (.ref (aa 3)), (.ref (aa 4)), (.ref (aa 5))]) :: (a3, .int, "[I", [(.int (za 0)), (.int (za 1)), (.int (za 2)), (.int (za 3)), (.int (za 4)), (.int (za 5))]) :: []) := H235
    refine own_astore K own_d11_407 rfl (Ls' := #[.val (.long pk), .second, .val (.int mo), .val (.ref a3), .val (.ref a42), .val (.int (0 : Int32)), .val (.int (6 : Int32)), .val (.ref a99), .val (.ref (aa k164)), .val (.ref (aa k181)), .val (.ref (aa k197)), .val (.ref (aa k211)), .val (.ref (aa k223)), .unset, .unset, .unset, .unset, .unset, .unset, .unset, .unset, .unset, .unset, .unset, .unset, .unset, .unset]) rfl ?_
    refine own_aload K own_d11_409 rfl rfl ?_
    refine own_virtual K own_d11_411 (own_w55 hw) (own_w56 hw) (own_w58 hw) (own_w57 hw) (own_w32 hw) (own_w59 hw) (H235.atO (i := 0) rfl) (a := a99) (argsL := []) (rest := []) (own_poll1 hw H235 ho ltk233 ) own_pd6 rfl rfl rfl (by decide) (W := 0) (Nat.le_of_eq rfl) (by decide) (by decide) (by decide) (by decide) ?_
    intro v240 h238 q239
    obtain ⟨rfl, H242⟩ := q239
    have PM244 : List.Perm [k164, k181, k197, k211, k223, k233] [5, 4, 3, 2, 1, 0] := (List.Perm.append_left [k164, k181, k197, k211, k223] (List.Perm.cons k233 List.Perm.nil)).trans PM237
    replace H242 : own_H Z h238 (own_DP a99 (.ref ta104) (.ref ca105) (.int (0 : Int32)) :: own_CN (aa 5) (.double (FP.i2d (za 5))) .null (.int (0 : Int32)) (.int (1 : Int32)) :: own_CN (aa 4) (.double (FP.i2d (za 4))) .null (.int (0 : Int32)) (.int (1 : Int32)) :: own_CN (aa 3) (.double (FP.i2d (za 3))) .null (.int (0 : Int32)) (.int (1 : Int32)) :: own_CN (aa 2) (.double (FP.i2d (za 2))) .null (.int (0 : Int32)) (.int (1 : Int32)) :: own_CN (aa 1) (.double (FP.i2d (za 1))) .null (.int (0 : Int32)) (.int (1 : Int32)) :: own_CN (aa 0) (.double (FP.i2d (za 0))) .null (.int (0 : Int32)) (.int (1 : Int32)) :: []) ((ta104, .double, "[D", ((.double (FP.i2d (za k233))) :: (.double (FP.i2d (za k224))) :: (.double (FP.i2d (za k213))) :: (.double (FP.i2d (za k200))) :: (.double (FP.i2d (za k185))) :: (.double (FP.i2d (za k169))) :: (List.replicate 58 (.double (0 : UInt64))))) :: (ca105, (.object "com/example/slotwise/slotwise/Simulation$Connection"), "[Lcom/example/slotwise/slotwise/Simulation$Connection;", (.null :: .null :: .null :: .null :: .null :: .null :: (List.replicate 58 .null))) :: (a42, (.object "com/example/slotwise/slotwise/Simulation$Connection"), "[Lcom/example/slotwise/slotwise/Simulation$Connection;", [(.ref (aa 0)), (.ref (aa 1)), (.ref (aa 2)), (.ref (aa 3)), (.ref (aa 4)), (.ref (aa 5))]) :: (a3, .int, "[I", [(.int (za 0)), (.int (za 1)), (.int (za 2)), (.int (za 3)), (.int (za 4)), (.int (za 5))]) :: []) := H242
    refine own_astore K own_d11_414 rfl (Ls' := #[.val (.long pk), .second, .val (.int mo), .val (.ref a3), .val (.ref a42), .val (.int (0 : Int32)), .val (.int (6 : Int32)), .val (.ref a99), .val (.ref (aa k164)), .val (.ref (aa k181)), .val (.ref (aa k197)), .val (.ref (aa k211)), .val (.ref (aa k223)), .val (.ref (aa k233)), .unset, .unset, .unset, .unset, .unset, .unset, .unset, .unset, .unset, .unset, .unset, .unset, .unset]) rfl ?_
    refine own_aload K own_d11_416 rfl rfl ?_
    refine own_virtual K own_d11_418 (own_w60 hw) (own_w61 hw) (own_w63 hw) (own_w62 hw) (own_w32 hw) (own_w64 hw) (H242.atO (i := 0) rfl) (a := a99) (argsL := []) (rest := []) (own_emp hw H242) own_pd7 rfl rfl rfl (by decide) (W := 0) (Nat.le_of_eq rfl) (by decide) (by decide) (by decide) (by decide) ?_
    intro v247 h245 q246
    obtain ⟨rfl, rfl⟩ := q246
    refine own_istore K own_d11_421 (Ls' := #[.val (.long pk), .second, .val (.int mo), .val (.ref a3), .val (.ref a42), .val (.int (0 : Int32)), .val (.int (6 : Int32)), .val (.ref a99), .val (.ref (aa k164)), .val (.ref (aa k181)), .val (.ref (aa k197)), .val (.ref (aa k211)), .val (.ref (aa k223)), .val (.ref (aa k233)), .val (.int (1 : Int32)), .unset, .unset, .unset, .unset, .unset, .unset, .unset, .unset, .unset, .unset, .unset, .unset]) rfl ?_
    refine own_aload K own_d11_423 rfl rfl ?_
    refine own_aload K own_d11_425 rfl rfl ?_
    have H248 := H242.frontA 2 rfl
    replace H248 : own_H Z h238 (own_DP a99 (.ref ta104) (.ref ca105) (.int (0 : Int32)) :: own_CN (aa 5) (.double (FP.i2d (za 5))) .null (.int (0 : Int32)) (.int (1 : Int32)) :: own_CN (aa 4) (.double (FP.i2d (za 4))) .null (.int (0 : Int32)) (.int (1 : Int32)) :: own_CN (aa 3) (.double (FP.i2d (za 3))) .null (.int (0 : Int32)) (.int (1 : Int32)) :: own_CN (aa 2) (.double (FP.i2d (za 2))) .null (.int (0 : Int32)) (.int (1 : Int32)) :: own_CN (aa 1) (.double (FP.i2d (za 1))) .null (.int (0 : Int32)) (.int (1 : Int32)) :: own_CN (aa 0) (.double (FP.i2d (za 0))) .null (.int (0 : Int32)) (.int (1 : Int32)) :: []) ((a42, (.object "com/example/slotwise/slotwise/Simulation$Connection"), "[Lcom/example/slotwise/slotwise/Simulation$Connection;", [(.ref (aa 0)), (.ref (aa 1)), (.ref (aa 2)), (.ref (aa 3)), (.ref (aa 4)), (.ref (aa 5))]) :: (ta104, .double, "[D", ((.double (FP.i2d (za k233))) :: (.double (FP.i2d (za k224))) :: (.double (FP.i2d (za k213))) :: (.double (FP.i2d (za k200))) :: (.double (FP.i2d (za k185))) :: (.double (FP.i2d (za k169))) :: (List.replicate 58 (.double (0 : UInt64))))) :: (ca105, (.object "com/example/slotwise/slotwise/Simulation$Connection"), "[Lcom/example/slotwise/slotwise/Simulation$Connection;", (.null :: .null :: .null :: .null :: .null :: .null :: (List.replicate 58 .null))) :: (a3, .int, "[I", [(.int (za 0)), (.int (za 1)), (.int (za 2)), (.int (za 3)), (.int (za 4)), (.int (za 5))]) :: []) := H248
    refine own_static K own_d11_427 (own_w65 hw) (own_w66 hw) (own_w3 hw) (own_w67 hw) (argsL := [(.ref (aa k164)), (.ref a42)]) (rest := []) (own_idx hw H248 hne ltk164) own_pd8 rfl rfl rfl (by decide) (W := 0) (Nat.le_of_eq rfl) (by decide) (by decide) (by decide) (by decide) ?_
    intro v251 h249 q250
    obtain ⟨rfl, rfl⟩ := q250
    refine own_istore K own_d11_430 (Ls' := #[.val (.long pk), .second, .val (.int mo), .val (.ref a3), .val (.ref a42), .val (.int (0 : Int32)), .val (.int (6 : Int32)), .val (.ref a99), .val (.ref (aa k164)), .val (.ref (aa k181)), .val (.ref (aa k197)), .val (.ref (aa k211)), .val (.ref (aa k223)), .val (.ref (aa k233)), .val (.int (1 : Int32)), .val (.int (Int32.ofNat k164)), .unset, .unset, .unset, .unset, .unset, .unset, .unset, .unset, .unset, .unset, .unset]) rfl ?_
    refine own_aload K own_d11_432 rfl rfl ?_
    refine own_aload K own_d11_434 rfl rfl ?_
    refine own_static K own_d11_436 (own_w65 hw) (own_w66 hw) (own_w3 hw) (own_w67 hw) (argsL := [(.ref (aa k181)), (.ref a42)]) (rest := []) (own_idx hw H248 hne ltk181) own_pd8 rfl rfl rfl (by decide) (W := 0) (Nat.le_of_eq rfl) (by decide) (by decide) (by decide) (by decide) ?_
    intro v254 h252 q253
    obtain ⟨rfl, rfl⟩ := q253
    refine own_istore K own_d11_439 (Ls' := #[.val (.long pk), .second, .val (.int mo), .val (.ref a3), .val (.ref a42), .val (.int (0 : Int32)), .val (.int (6 : Int32)), .val (.ref a99), .val (.ref (aa k164)), .val (.ref (aa k181)), .val (.ref (aa k197)), .val (.ref (aa k211)), .val (.ref (aa k223)), .val (.ref (aa k233)), .val (.int (1 : Int32)), .val (.int (Int32.ofNat k164)), .val (.int (Int32.ofNat k181)), .unset, .unset, .unset, .unset, .unset, .unset, .unset, .unset, .unset, .unset]) rfl ?_
    refine own_aload K own_d11_441 rfl rfl ?_
    refine own_aload K own_d11_443 rfl rfl ?_
    refine own_static K own_d11_445 (own_w65 hw) (own_w66 hw) (own_w3 hw) (own_w67 hw) (argsL := [(.ref (aa k197)), (.ref a42)]) (rest := []) (own_idx hw H248 hne ltk197) own_pd8 rfl rfl rfl (by decide) (W := 0) (Nat.le_of_eq rfl) (by decide) (by decide) (by decide) (by decide) ?_
    intro v257 h255 q256
    obtain ⟨rfl, rfl⟩ := q256
    refine own_istore K own_d11_448 (Ls' := #[.val (.long pk), .second, .val (.int mo), .val (.ref a3), .val (.ref a42), .val (.int (0 : Int32)), .val (.int (6 : Int32)), .val (.ref a99), .val (.ref (aa k164)), .val (.ref (aa k181)), .val (.ref (aa k197)), .val (.ref (aa k211)), .val (.ref (aa k223)), .val (.ref (aa k233)), .val (.int (1 : Int32)), .val (.int (Int32.ofNat k164)), .val (.int (Int32.ofNat k181)), .val (.int (Int32.ofNat k197)), .unset, .unset, .unset, .unset, .unset, .unset, .unset, .unset, .unset]) rfl ?_
    refine own_aload K own_d11_450 rfl rfl ?_
    refine own_aload K own_d11_452 rfl rfl ?_
    refine own_static K own_d11_454 (own_w65 hw) (own_w66 hw) (own_w3 hw) (own_w67 hw) (argsL := [(.ref (aa k211)), (.ref a42)]) (rest := []) (own_idx hw H248 hne ltk211) own_pd8 rfl rfl rfl (by decide) (W := 0) (Nat.le_of_eq rfl) (by decide) (by decide) (by decide) (by decide) ?_
    intro v260 h258 q259
    obtain ⟨rfl, rfl⟩ := q259
    refine own_istore K own_d11_457 (Ls' := #[.val (.long pk), .second, .val (.int mo), .val (.ref a3), .val (.ref a42), .val (.int (0 : Int32)), .val (.int (6 : Int32)), .val (.ref a99), .val (.ref (aa k164)), .val (.ref (aa k181)), .val (.ref (aa k197)), .val (.ref (aa k211)), .val (.ref (aa k223)), .val (.ref (aa k233)), .val (.int (1 : Int32)), .val (.int (Int32.ofNat k164)), .val (.int (Int32.ofNat k181)), .val (.int (Int32.ofNat k197)), .val (.int (Int32.ofNat k211)), .unset, .unset, .unset, .unset, .unset, .unset, .unset, .unset]) rfl ?_
    refine own_aload K own_d11_459 rfl rfl ?_
    refine own_aload K own_d11_461 rfl rfl ?_
    refine own_static K own_d11_463 (own_w65 hw) (own_w66 hw) (own_w3 hw) (own_w67 hw) (argsL := [(.ref (aa k223)), (.ref a42)]) (rest := []) (own_idx hw H248 hne ltk223) own_pd8 rfl rfl rfl (by decide) (W := 0) (Nat.le_of_eq rfl) (by decide) (by decide) (by decide) (by decide) ?_
    intro v263 h261 q262
    obtain ⟨rfl, rfl⟩ := q262
    refine own_istore K own_d11_466 (Ls' := #[.val (.long pk), .second, .val (.int mo), .val (.ref a3), .val (.ref a42), .val (.int (0 : Int32)), .val (.int (6 : Int32)), .val (.ref a99), .val (.ref (aa k164)), .val (.ref (aa k181)), .val (.ref (aa k197)), .val (.ref (aa k211)), .val (.ref (aa k223)), .val (.ref (aa k233)), .val (.int (1 : Int32)), .val (.int (Int32.ofNat k164)), .val (.int (Int32.ofNat k181)), .val (.int (Int32.ofNat k197)), .val (.int (Int32.ofNat k211)), .val (.int (Int32.ofNat k223)), .unset, .unset, .unset, .unset, .unset, .unset, .unset]) rfl ?_
    refine own_aload K own_d11_468 rfl rfl ?_
    refine own_aload K own_d11_470 rfl rfl ?_
    refine own_static K own_d11_472 (own_w65 hw) (own_w66 hw) (own_w3 hw) (own_w67 hw) (argsL := [(.ref (aa k233)), (.ref a42)]) (rest := []) (own_idx hw H248 hne ltk233) own_pd8 rfl rfl rfl (by decide) (W := 0) (Nat.le_of_eq rfl) (by decide) (by decide) (by decide) (by decide) ?_
    intro v266 h264 q265
    obtain ⟨rfl, rfl⟩ := q265
    refine own_istore K own_d11_475 (Ls' := #[.val (.long pk), .second, .val (.int mo), .val (.ref a3), .val (.ref a42), .val (.int (0 : Int32)), .val (.int (6 : Int32)), .val (.ref a99), .val (.ref (aa k164)), .val (.ref (aa k181)), .val (.ref (aa k197)), .val (.ref (aa k211)), .val (.ref (aa k223)), .val (.ref (aa k233)), .val (.int (1 : Int32)), .val (.int (Int32.ofNat k164)), .val (.int (Int32.ofNat k181)), .val (.int (Int32.ofNat k197)), .val (.int (Int32.ofNat k211)), .val (.int (Int32.ofNat k223)), .val (.int (Int32.ofNat k233)), .unset, .unset, .unset, .unset, .unset, .unset]) rfl ?_
    refine own_iload K own_d11_477 rfl ?_
    refine own_iflt K own_d11_479 (fun q => absurd q (by rw [own_oN ltk164]; omega)) (fun _ => ?_)
    refine own_iload K own_d11_482 rfl ?_
    refine own_iflt K own_d11_484 (fun q => absurd q (by rw [own_oN ltk181]; omega)) (fun _ => ?_)
    refine own_iload K own_d11_487 rfl ?_
    refine own_iflt K own_d11_489 (fun q => absurd q (by rw [own_oN ltk197]; omega)) (fun _ => ?_)
    refine own_iload K own_d11_492 rfl ?_
    refine own_iflt K own_d11_494 (fun q => absurd q (by rw [own_oN ltk211]; omega)) (fun _ => ?_)
    refine own_iload K own_d11_497 rfl ?_
    refine own_iflt K own_d11_499 (fun q => absurd q (by rw [own_oN ltk223]; omega)) (fun _ => ?_)
    refine own_iload K own_d11_502 rfl ?_
    refine own_ifge K own_d11_504 (fun _ => ?_) (fun q => absurd (by rw [own_oN ltk233]; omega) q)
    refine own_iconst K own_d11_509 (v := (1 : Int32)) rfl ?_
    refine own_iload K own_d11_510 rfl ?_
    refine own_ishl K own_d11_512 ?_
    refine own_iconst K own_d11_513 (v := (1 : Int32)) rfl ?_
    refine own_iload K own_d11_514 rfl ?_
    refine own_ishl K own_d11_516 ?_
    refine own_ior K own_d11_517 ?_
    refine own_iconst K own_d11_518 (v := (1 : Int32)) rfl ?_
    refine own_iload K own_d11_519 rfl ?_
    refine own_ishl K own_d11_521 ?_
    refine own_ior K own_d11_522 ?_
    refine own_iconst K own_d11_523 (v := (1 : Int32)) rfl ?_
    refine own_iload K own_d11_524 rfl ?_
    refine own_ishl K own_d11_526 ?_
    refine own_ior K own_d11_527 ?_
    refine own_iconst K own_d11_528 (v := (1 : Int32)) rfl ?_
    refine own_iload K own_d11_529 rfl ?_
    refine own_ishl K own_d11_531 ?_
    refine own_ior K own_d11_532 ?_
    refine own_iconst K own_d11_533 (v := (1 : Int32)) rfl ?_
    refine own_iload K own_d11_534 rfl ?_
    refine own_ishl K own_d11_536 ?_
    refine own_ior K own_d11_537 ?_
    refine own_bipush K own_d11_538 (v := (63 : Int32)) rfl ?_
    refine own_icmpeq K own_d11_540 (fun _ => ?_) (fun q => absurd (own_mask PM244) q)
    refine own_iload K own_d11_545 rfl ?_
    refine own_iload K own_d11_547 rfl ?_
    refine own_icmplt K own_d11_549 (fun _ => ?_) (fun q => absurd (by rw [own_oN ltk164]; show (k164 : Int) < 6; omega) q)
    refine own_aloadN K own_d11_554 rfl rfl ?_
    refine own_iload K own_d11_555 rfl ?_
    refine own_iaload K own_d11_557 H248 (i := 3) rfl (q := k164) (own_oN ltk164) (own_vz ltk164) ?_
    refine own_istore K own_d11_558 (Ls' := #[.val (.long pk), .second, .val (.int mo), .val (.ref a3), .val (.ref a42), .val (.int (0 : Int32)), .val (.int (6 : Int32)), .val (.ref a99), .val (.ref (aa k164)), .val (.ref (aa k181)), .val (.ref (aa k197)), .val (.ref (aa k211)), .val (.ref (aa k223)), .val (.ref (aa k233)), .val (.int (1 : Int32)), .val (.int (Int32.ofNat k164)), .val (.int (Int32.ofNat k181)), .val (.int (Int32.ofNat k197)), .val (.int (Int32.ofNat k211)), .val (.int (Int32.ofNat k223)), .val (.int (Int32.ofNat k233)), .val (.int (za k164)), .unset, .unset, .unset, .unset, .unset]) rfl ?_
    refine own_aloadN K own_d11_560 rfl rfl ?_
    refine own_iload K own_d11_561 rfl ?_
    refine own_iaload K own_d11_563 H248 (i := 3) rfl (q := k181) (own_oN ltk181) (own_vz ltk181) ?_
    refine own_istore K own_d11_564 (Ls' := #[.val (.long pk), .second, .val (.int mo), .val (.ref a3), .val (.ref a42), .val (.int (0 : Int32)), .val (.int (6 : Int32)), .val (.ref a99), .val (.ref (aa k164)), .val (.ref (aa k181)), .val (.ref (aa k197)), .val (.ref (aa k211)), .val (.ref (aa k223)), .val (.ref (aa k233)), .val (.int (1 : Int32)), .val (.int (Int32.ofNat k164)), .val (.int (Int32.ofNat k181)), .val (.int (Int32.ofNat k197)), .val (.int (Int32.ofNat k211)), .val (.int (Int32.ofNat k223)), .val (.int (Int32.ofNat k233)), .val (.int (za k164)), .val (.int (za k181)), .unset, .unset, .unset, .unset]) rfl ?_
    refine own_aloadN K own_d11_566 rfl rfl ?_
    refine own_iload K own_d11_567 rfl ?_
    refine own_iaload K own_d11_569 H248 (i := 3) rfl (q := k197) (own_oN ltk197) (own_vz ltk197) ?_
    refine own_istore K own_d11_570 (Ls' := #[.val (.long pk), .second, .val (.int mo), .val (.ref a3), .val (.ref a42), .val (.int (0 : Int32)), .val (.int (6 : Int32)), .val (.ref a99), .val (.ref (aa k164)), .val (.ref (aa k181)), .val (.ref (aa k197)), .val (.ref (aa k211)), .val (.ref (aa k223)), .val (.ref (aa k233)), .val (.int (1 : Int32)), .val (.int (Int32.ofNat k164)), .val (.int (Int32.ofNat k181)), .val (.int (Int32.ofNat k197)), .val (.int (Int32.ofNat k211)), .val (.int (Int32.ofNat k223)), .val (.int (Int32.ofNat k233)), .val (.int (za k164)), .val (.int (za k181)), .val (.int (za k197)), .unset, .unset, .unset]) rfl ?_
    refine own_aloadN K own_d11_572 rfl rfl ?_
    refine own_iload K own_d11_573 rfl ?_
    refine own_iaload K own_d11_575 H248 (i := 3) rfl (q := k211) (own_oN ltk211) (own_vz ltk211) ?_
    refine own_istore K own_d11_576 (Ls' := #[.val (.long pk), .second, .val (.int mo), .val (.ref a3), .val (.ref a42), .val (.int (0 : Int32)), .val (.int (6 : Int32)), .val (.ref a99), .val (.ref (aa k164)), .val (.ref (aa k181)), .val (.ref (aa k197)), .val (.ref (aa k211)), .val (.ref (aa k223)), .val (.ref (aa k233)), .val (.int (1 : Int32)), .val (.int (Int32.ofNat k164)), .val (.int (Int32.ofNat k181)), .val (.int (Int32.ofNat k197)), .val (.int (Int32.ofNat k211)), .val (.int (Int32.ofNat k223)), .val (.int (Int32.ofNat k233)), .val (.int (za k164)), .val (.int (za k181)), .val (.int (za k197)), .val (.int (za k211)), .unset, .unset]) rfl ?_
    refine own_aloadN K own_d11_578 rfl rfl ?_
    refine own_iload K own_d11_579 rfl ?_
    refine own_iaload K own_d11_581 H248 (i := 3) rfl (q := k223) (own_oN ltk223) (own_vz ltk223) ?_
    refine own_istore K own_d11_582 (Ls' := #[.val (.long pk), .second, .val (.int mo), .val (.ref a3), .val (.ref a42), .val (.int (0 : Int32)), .val (.int (6 : Int32)), .val (.ref a99), .val (.ref (aa k164)), .val (.ref (aa k181)), .val (.ref (aa k197)), .val (.ref (aa k211)), .val (.ref (aa k223)), .val (.ref (aa k233)), .val (.int (1 : Int32)), .val (.int (Int32.ofNat k164)), .val (.int (Int32.ofNat k181)), .val (.int (Int32.ofNat k197)), .val (.int (Int32.ofNat k211)), .val (.int (Int32.ofNat k223)), .val (.int (Int32.ofNat k233)), .val (.int (za k164)), .val (.int (za k181)), .val (.int (za k197)), .val (.int (za k211)), .val (.int (za k223)), .unset]) rfl ?_
    refine own_aloadN K own_d11_584 rfl rfl ?_
    refine own_iload K own_d11_585 rfl ?_
    refine own_iaload K own_d11_587 H248 (i := 3) rfl (q := k233) (own_oN ltk233) (own_vz ltk233) ?_
    refine own_istore K own_d11_588 (Ls' := #[.val (.long pk), .second, .val (.int mo), .val (.ref a3), .val (.ref a42), .val (.int (0 : Int32)), .val (.int (6 : Int32)), .val (.ref a99), .val (.ref (aa k164)), .val (.ref (aa k181)), .val (.ref (aa k197)), .val (.ref (aa k211)), .val (.ref (aa k223)), .val (.ref (aa k233)), .val (.int (1 : Int32)), .val (.int (Int32.ofNat k164)), .val (.int (Int32.ofNat k181)), .val (.int (Int32.ofNat k197)), .val (.int (Int32.ofNat k211)), .val (.int (Int32.ofNat k223)), .val (.int (Int32.ofNat k233)), .val (.int (za k164)), .val (.int (za k181)), .val (.int (za k197)), .val (.int (za k211)), .val (.int (za k223)), .val (.int (za k233))]) rfl ?_
    refine own_iload K own_d11_590 rfl ?_
    refine own_aloadN K own_d11_592 rfl rfl ?_
    refine own_iload K own_d11_593 rfl ?_
    have H267 := H248.frontA 3 rfl
    replace H267 : own_H Z h238 (own_DP a99 (.ref ta104) (.ref ca105) (.int (0 : Int32)) :: own_CN (aa 5) (.double (FP.i2d (za 5))) .null (.int (0 : Int32)) (.int (1 : Int32)) :: own_CN (aa 4) (.double (FP.i2d (za 4))) .null (.int (0 : Int32)) (.int (1 : Int32)) :: own_CN (aa 3) (.double (FP.i2d (za 3))) .null (.int (0 : Int32)) (.int (1 : Int32)) :: own_CN (aa 2) (.double (FP.i2d (za 2))) .null (.int (0 : Int32)) (.int (1 : Int32)) :: own_CN (aa 1) (.double (FP.i2d (za 1))) .null (.int (0 : Int32)) (.int (1 : Int32)) :: own_CN (aa 0) (.double (FP.i2d (za 0))) .null (.int (0 : Int32)) (.int (1 : Int32)) :: []) ((a3, .int, "[I", [(.int (za 0)), (.int (za 1)), (.int (za 2)), (.int (za 3)), (.int (za 4)), (.int (za 5))]) :: (a42, (.object "com/example/slotwise/slotwise/Simulation$Connection"), "[Lcom/example/slotwise/slotwise/Simulation$Connection;", [(.ref (aa 0)), (.ref (aa 1)), (.ref (aa 2)), (.ref (aa 3)), (.ref (aa 4)), (.ref (aa 5))]) :: (ta104, .double, "[D", ((.double (FP.i2d (za k233))) :: (.double (FP.i2d (za k224))) :: (.double (FP.i2d (za k213))) :: (.double (FP.i2d (za k200))) :: (.double (FP.i2d (za k185))) :: (.double (FP.i2d (za k169))) :: (List.replicate 58 (.double (0 : UInt64))))) :: (ca105, (.object "com/example/slotwise/slotwise/Simulation$Connection"), "[Lcom/example/slotwise/slotwise/Simulation$Connection;", (.null :: .null :: .null :: .null :: .null :: .null :: (List.replicate 58 .null))) :: []) := H267
    refine own_static K own_d11_595 (own_w68 hw) (own_w69 hw) (own_w3 hw) (own_w70 hw) (argsL := [(.ref a3), (.int (6 : Int32))]) (rest := [(.int (za k164))]) (own_mut6 hw H267) own_pd9 rfl rfl rfl (by decide) (W := 1) (Nat.le_of_eq rfl) (by decide) (by decide) (by decide) (by decide) ?_
    intro v270 h268 q269
    obtain ⟨⟨im, him, rfl⟩, rfl⟩ := q269
    refine own_icmple K own_d11_598 (fun _ => ?_) (fun q => absurd (RM im him) q)
    refine own_iload K own_d11_603 rfl ?_
    refine own_bipush K own_d11_605 (v := (6 : Int32)) rfl ?_
    refine own_icmpne K own_d11_607 (fun q => absurd q (by decide)) (fun _ => ?_)
    refine own_iload K own_d11_610 rfl ?_
    refine own_iload K own_d11_612 rfl ?_
    refine own_icmple K own_d11_614 (fun _ => ?_) (fun q => absurd (le192) q)
    refine own_iload K own_d11_619 rfl ?_
    refine own_iload K own_d11_621 rfl ?_
    refine own_icmpgt K own_d11_623 (fun q => absurd q (Int.not_lt.mpr le206)) (fun _ => ?_)
    refine own_iload K own_d11_626 rfl ?_
    refine own_iload K own_d11_628 rfl ?_
    refine own_icmpgt K own_d11_630 (fun q => absurd q (Int.not_lt.mpr le218)) (fun _ => ?_)
    refine own_iload K own_d11_633 rfl ?_
    refine own_iload K own_d11_635 rfl ?_
    refine own_icmpgt K own_d11_637 (fun q => absurd q (Int.not_lt.mpr le228)) (fun _ => ?_)
    refine own_iload K own_d11_640 rfl ?_
    refine own_iload K own_d11_642 rfl ?_
    refine own_icmpgt K own_d11_644 (fun q => absurd q (Int.not_lt.mpr le236)) (fun _ => ?_)
    refine own_iload K own_d11_647 rfl ?_
    refine own_ifeq K own_d11_649 (fun q => absurd q (by decide)) (fun _ => ?_)
    refine own_iconst K own_d11_652 (v := (1 : Int32)) rfl ?_
    refine own_goto K own_d11_653 ?_
    exact own_retZ K (by first | exact Or.inl rfl | exact Or.inr rfl | decide) own_d11_657 (by decide) (by decide) (rfl)
  · refine own_bipush K own_d11_0 (v := (6 : Int32)) rfl ?_
    refine own_newarray K own_d11_2 (ty := .int) rfl (own_w0 hw) H (q := 6) (by decide) (ad := "[I") (by decide +kernel) (vs := [(.int (0 : Int32)), (.int (0 : Int32)), (.int (0 : Int32)), (.int (0 : Int32)), (.int (0 : Int32)), (.int (0 : Int32))]) rfl (by decide) (by decide) (by decide) ?_
    intro h1 a3 H2
    replace H2 : own_H Z h1 ([]) ((a3, .int, "[I", [(.int (0 : Int32)), (.int (0 : Int32)), (.int (0 : Int32)), (.int (0 : Int32)), (.int (0 : Int32)), (.int (0 : Int32))]) :: []) := H2
    refine own_astoreN K own_d11_4 rfl (Ls' := #[.val (.long pk), .second, .val (.int mo), .val (.ref a3), .unset, .unset, .unset, .unset, .unset, .unset, .unset, .unset, .unset, .unset, .unset, .unset, .unset, .unset, .unset, .unset, .unset, .unset, .unset, .unset, .unset, .unset, .unset]) rfl ?_
    refine own_aloadN K own_d11_5 rfl rfl ?_
    refine own_iconst K own_d11_6 (v := (0 : Int32)) rfl ?_
    refine own_lloadN K own_d11_7 rfl ?_
    refine own_iconst K own_d11_8 (v := (0 : Int32)) rfl ?_
    refine own_static K own_d11_9 (own_w1 hw) (own_w2 hw) (own_w3 hw) (own_w4 hw) (argsL := [(.long pk), (.int (0 : Int32))]) (rest := [(.int (0 : Int32)), (.ref a3)]) (own_fld hw) own_pd3 rfl rfl rfl (by decide) (W := 2) (Nat.le_of_eq rfl) (by decide) (by decide) (by decide) (by decide) ?_
    intro v6 h4 q5
    obtain ⟨⟨z7, rfl⟩, rfl⟩ := q5
    refine own_iastore K own_d11_12 H2 (i := 0) rfl (q := 0) (by decide) (own_le rfl) ?_
    intro h8 H9
    replace H9 : own_H Z h8 ([]) ((a3, .int, "[I", [(.int z7), (.int (0 : Int32)), (.int (0 : Int32)), (.int (0 : Int32)), (.int (0 : Int32)), (.int (0 : Int32))]) :: []) := H9
    refine own_aloadN K own_d11_13 rfl rfl ?_
    refine own_iconst K own_d11_14 (v := (1 : Int32)) rfl ?_
    refine own_lloadN K own_d11_15 rfl ?_
    refine own_iconst K own_d11_16 (v := (1 : Int32)) rfl ?_
    refine own_static K own_d11_17 (own_w1 hw) (own_w2 hw) (own_w3 hw) (own_w4 hw) (argsL := [(.long pk), (.int (1 : Int32))]) (rest := [(.int (1 : Int32)), (.ref a3)]) (own_fld hw) own_pd3 rfl rfl rfl (by decide) (W := 2) (Nat.le_of_eq rfl) (by decide) (by decide) (by decide) (by decide) ?_
    intro v12 h10 q11
    obtain ⟨⟨z13, rfl⟩, rfl⟩ := q11
    refine own_iastore K own_d11_20 H9 (i := 0) rfl (q := 1) (by decide) (own_le rfl) ?_
    intro h14 H15
    replace H15 : own_H Z h14 ([]) ((a3, .int, "[I", [(.int z7), (.int z13), (.int (0 : Int32)), (.int (0 : Int32)), (.int (0 : Int32)), (.int (0 : Int32))]) :: []) := H15
    refine own_aloadN K own_d11_21 rfl rfl ?_
    refine own_iconst K own_d11_22 (v := (2 : Int32)) rfl ?_
    refine own_lloadN K own_d11_23 rfl ?_
    refine own_iconst K own_d11_24 (v := (2 : Int32)) rfl ?_
    refine own_static K own_d11_25 (own_w1 hw) (own_w2 hw) (own_w3 hw) (own_w4 hw) (argsL := [(.long pk), (.int (2 : Int32))]) (rest := [(.int (2 : Int32)), (.ref a3)]) (own_fld hw) own_pd3 rfl rfl rfl (by decide) (W := 2) (Nat.le_of_eq rfl) (by decide) (by decide) (by decide) (by decide) ?_
    intro v18 h16 q17
    obtain ⟨⟨z19, rfl⟩, rfl⟩ := q17
    refine own_iastore K own_d11_28 H15 (i := 0) rfl (q := 2) (by decide) (own_le rfl) ?_
    intro h20 H21
    replace H21 : own_H Z h20 ([]) ((a3, .int, "[I", [(.int z7), (.int z13), (.int z19), (.int (0 : Int32)), (.int (0 : Int32)), (.int (0 : Int32))]) :: []) := H21
    refine own_aloadN K own_d11_29 rfl rfl ?_
    refine own_iconst K own_d11_30 (v := (3 : Int32)) rfl ?_
    refine own_lloadN K own_d11_31 rfl ?_
    refine own_iconst K own_d11_32 (v := (3 : Int32)) rfl ?_
    refine own_static K own_d11_33 (own_w1 hw) (own_w2 hw) (own_w3 hw) (own_w4 hw) (argsL := [(.long pk), (.int (3 : Int32))]) (rest := [(.int (3 : Int32)), (.ref a3)]) (own_fld hw) own_pd3 rfl rfl rfl (by decide) (W := 2) (Nat.le_of_eq rfl) (by decide) (by decide) (by decide) (by decide) ?_
    intro v24 h22 q23
    obtain ⟨⟨z25, rfl⟩, rfl⟩ := q23
    refine own_iastore K own_d11_36 H21 (i := 0) rfl (q := 3) (by decide) (own_le rfl) ?_
    intro h26 H27
    replace H27 : own_H Z h26 ([]) ((a3, .int, "[I", [(.int z7), (.int z13), (.int z19), (.int z25), (.int (0 : Int32)), (.int (0 : Int32))]) :: []) := H27
    refine own_aloadN K own_d11_37 rfl rfl ?_
    refine own_iconst K own_d11_38 (v := (4 : Int32)) rfl ?_
    refine own_lloadN K own_d11_39 rfl ?_
    refine own_iconst K own_d11_40 (v := (4 : Int32)) rfl ?_
    refine own_static K own_d11_41 (own_w1 hw) (own_w2 hw) (own_w3 hw) (own_w4 hw) (argsL := [(.long pk), (.int (4 : Int32))]) (rest := [(.int (4 : Int32)), (.ref a3)]) (own_fld hw) own_pd3 rfl rfl rfl (by decide) (W := 2) (Nat.le_of_eq rfl) (by decide) (by decide) (by decide) (by decide) ?_
    intro v30 h28 q29
    obtain ⟨⟨z31, rfl⟩, rfl⟩ := q29
    refine own_iastore K own_d11_44 H27 (i := 0) rfl (q := 4) (by decide) (own_le rfl) ?_
    intro h32 H33
    replace H33 : own_H Z h32 ([]) ((a3, .int, "[I", [(.int z7), (.int z13), (.int z19), (.int z25), (.int z31), (.int (0 : Int32))]) :: []) := H33
    refine own_aloadN K own_d11_45 rfl rfl ?_
    refine own_iconst K own_d11_46 (v := (5 : Int32)) rfl ?_
    refine own_lloadN K own_d11_47 rfl ?_
    refine own_iconst K own_d11_48 (v := (5 : Int32)) rfl ?_
    refine own_static K own_d11_49 (own_w1 hw) (own_w2 hw) (own_w3 hw) (own_w4 hw) (argsL := [(.long pk), (.int (5 : Int32))]) (rest := [(.int (5 : Int32)), (.ref a3)]) (own_fld hw) own_pd3 rfl rfl rfl (by decide) (W := 2) (Nat.le_of_eq rfl) (by decide) (by decide) (by decide) (by decide) ?_
    intro v36 h34 q35
    obtain ⟨⟨z37, rfl⟩, rfl⟩ := q35
    refine own_iastore K own_d11_52 H33 (i := 0) rfl (q := 5) (by decide) (own_le rfl) ?_
    intro h38 H39
    replace H39 : own_H Z h38 ([]) ((a3, .int, "[I", [(.int z7), (.int z13), (.int z19), (.int z25), (.int z31), (.int z37)]) :: []) := H39
    obtain ⟨za, ez0, ez1, ez2, ez3, ez4, ez5⟩ : ∃ za : Nat → Int32, z7 = za 0 ∧ z13 = za 1 ∧ z19 = za 2 ∧ z25 = za 3 ∧ z31 = za 4 ∧ z37 = za 5 := ⟨fun j => [z7, z13, z19, z25, z31, z37].getD j 0, rfl, rfl, rfl, rfl, rfl, rfl⟩
    subst ez0 ez1 ez2 ez3 ez4 ez5
    refine own_bipush K own_d11_53 (v := (6 : Int32)) rfl ?_
    refine own_anewarray K own_d11_55 (own_w6 hw) (own_w7 hw) H39 (q := 6) (by decide) (ad := "[Lcom/example/slotwise/slotwise/Simulation$Connection;") (by decide +kernel) (vs := [.null, .null, .null, .null, .null, .null]) rfl (by decide) (by decide) (by decide) ?_
    intro h40 a42 H41
    replace H41 : own_H Z h40 ([]) ((a42, (.object "com/example/slotwise/slotwise/Simulation$Connection"), "[Lcom/example/slotwise/slotwise/Simulation$Connection;", [.null, .null, .null, .null, .null, .null]) :: (a3, .int, "[I", [(.int (za 0)), (.int (za 1)), (.int (za 2)), (.int (za 3)), (.int (za 4)), (.int (za 5))]) :: []) := H41
    refine own_astore K own_d11_58 rfl (Ls' := #[.val (.long pk), .second, .val (.int mo), .val (.ref a3), .val (.ref a42), .unset, .unset, .unset, .unset, .unset, .unset, .unset, .unset, .unset, .unset, .unset, .unset, .unset, .unset, .unset, .unset, .unset, .unset, .unset, .unset, .unset, .unset]) rfl ?_
    refine own_aload K own_d11_60 rfl rfl ?_
    refine own_iconst K own_d11_62 (v := (0 : Int32)) rfl ?_
    refine own_new K own_d11_63 (own_w6 hw) (own_w8 hw) (own_w9 hw) H41 (own_CN_F hw) (own_CN_P hw) (by decide) (by decide) ?_
    intro h43 a45 H44
    replace H44 : own_H Z h43 (own_CN a45 (.double (0 : UInt64)) .null (.int (0 : Int32)) (.int (0 : Int32)) :: []) ((a42, (.object "com/example/slotwise/slotwise/Simulation$Connection"), "[Lcom/example/slotwise/slotwise/Simulation$Connection;", [.null, .null, .null, .null, .null, .null]) :: (a3, .int, "[I", [(.int (za 0)), (.int (za 1)), (.int (za 2)), (.int (za 3)), (.int (za 4)), (.int (za 5))]) :: []) := H44
    refine own_dup K own_d11_66 rfl ?_
    refine own_aloadN K own_d11_67 rfl rfl ?_
    refine own_iconst K own_d11_68 (v := (0 : Int32)) rfl ?_
    refine own_iaload K own_d11_69 H44 (i := 1) rfl (q := 0) (by decide) (rfl) ?_
    refine own_i2d K own_d11_70 ?_
    refine own_aconstNull K own_d11_71 ?_
    refine own_iconst K own_d11_72 (v := (0 : Int32)) rfl ?_
    refine own_iconst K own_d11_73 (v := (1 : Int32)) rfl ?_
    refine own_special K own_d11_74 rfl (own_w10 hw) (own_w11 hw) (own_w9 hw) (own_w12 hw) (a := a45) (argsL := [(.double (FP.i2d (za 0))), .null, (.int (0 : Int32)), (.int (1 : Int32))]) (rest := [(.ref a45), (.int (0 : Int32)), (.ref a42)]) (own_ni hw H44) own_pd4 rfl rfl rfl (by decide) (W := 3) (Nat.le_of_eq rfl) (by decide) (by decide) (by decide) (by decide) ?_
    intro v48 h46 q47
    obtain ⟨rfl, H49⟩ := q47
    replace H49 : own_H Z h46 (own_CN a45 (.double (FP.i2d (za 0))) .null (.int (0 : Int32)) (.int (1 : Int32)) :: []) ((a42, (.object "com/example/slotwise/slotwise/Simulation$Connection"), "[Lcom/example/slotwise/slotwise/Simulation$Connection;", [.null, .null, .null, .null, .null, .null]) :: (a3, .int, "[I", [(.int (za 0)), (.int (za 1)), (.int (za 2)), (.int (za 3)), (.int (za 4)), (.int (za 5))]) :: []) := H49
    refine own_aastoreR K own_d11_77 H49 (i := 0) rfl (by decide) (Ins.self (H49.atO (i := 0) rfl)) (q := 0) (by decide) (own_le rfl) ?_
    intro h50 H51
    replace H51 : own_H Z h50 (own_CN a45 (.double (FP.i2d (za 0))) .null (.int (0 : Int32)) (.int (1 : Int32)) :: []) ((a42, (.object "com/example/slotwise/slotwise/Simulation$Connection"), "[Lcom/example/slotwise/slotwise/Simulation$Connection;", [(.ref a45), .null, .null, .null, .null, .null]) :: (a3, .int, "[I", [(.int (za 0)), (.int (za 1)), (.int (za 2)), (.int (za 3)), (.int (za 4)), (.int (za 5))]) :: []) := H51
    refine own_aload K own_d11_78 rfl rfl ?_
    refine own_iconst K own_d11_80 (v := (1 : Int32)) rfl ?_
    refine own_new K own_d11_81 (own_w6 hw) (own_w8 hw) (own_w9 hw) H51 (own_CN_F hw) (own_CN_P hw) (by decide) (by decide) ?_
    intro h52 a54 H53
    replace H53 : own_H Z h52 (own_CN a54 (.double (0 : UInt64)) .null (.int (0 : Int32)) (.int (0 : Int32)) :: own_CN a45 (.double (FP.i2d (za 0))) .null (.int (0 : Int32)) (.int (1 : Int32)) :: []) ((a42, (.object "com/example/slotwise/slotwise/Simulation$Connection"), "[Lcom/example/slotwise/slotwise/Simulation$Connection;", [(.ref a45), .null, .null, .null, .null, .null]) :: (a3, .int, "[I", [(.int (za 0)), (.int (za 1)), (.int (za 2)), (.int (za 3)), (.int (za 4)), (.int (za 5))]) :: []) := H53
    refine own_dup K own_d11_84 rfl ?_
    refine own_aloadN K own_d11_85 rfl rfl ?_
    refine own_iconst K own_d11_86 (v := (1 : Int32)) rfl ?_
    refine own_iaload K own_d11_87 H53 (i := 1) rfl (q := 1) (by decide) (rfl) ?_
    refine own_i2d K own_d11_88 ?_
    refine own_aconstNull K own_d11_89 ?_
    refine own_iconst K own_d11_90 (v := (0 : Int32)) rfl ?_
    refine own_iconst K own_d11_91 (v := (1 : Int32)) rfl ?_
    refine own_special K own_d11_92 rfl (own_w10 hw) (own_w11 hw) (own_w9 hw) (own_w12 hw) (a := a54) (argsL := [(.double (FP.i2d (za 1))), .null, (.int (0 : Int32)), (.int (1 : Int32))]) (rest := [(.ref a54), (.int (1 : Int32)), (.ref a42)]) (own_ni hw H53) own_pd4 rfl rfl rfl (by decide) (W := 3) (Nat.le_of_eq rfl) (by decide) (by decide) (by decide) (by decide) ?_
    intro v57 h55 q56
    obtain ⟨rfl, H58⟩ := q56
    replace H58 : own_H Z h55 (own_CN a54 (.double (FP.i2d (za 1))) .null (.int (0 : Int32)) (.int (1 : Int32)) :: own_CN a45 (.double (FP.i2d (za 0))) .null (.int (0 : Int32)) (.int (1 : Int32)) :: []) ((a42, (.object "com/example/slotwise/slotwise/Simulation$Connection"), "[Lcom/example/slotwise/slotwise/Simulation$Connection;", [(.ref a45), .null, .null, .null, .null, .null]) :: (a3, .int, "[I", [(.int (za 0)), (.int (za 1)), (.int (za 2)), (.int (za 3)), (.int (za 4)), (.int (za 5))]) :: []) := H58
    refine own_aastoreR K own_d11_95 H58 (i := 0) rfl (by decide) (Ins.self (H58.atO (i := 0) rfl)) (q := 1) (by decide) (own_le rfl) ?_
    intro h59 H60
    replace H60 : own_H Z h59 (own_CN a54 (.double (FP.i2d (za 1))) .null (.int (0 : Int32)) (.int (1 : Int32)) :: own_CN a45 (.double (FP.i2d (za 0))) .null (.int (0 : Int32)) (.int (1 : Int32)) :: []) ((a42, (.object "com/example/slotwise/slotwise/Simulation$Connection"), "[Lcom/example/slotwise/slotwise/Simulation$Connection;", [(.ref a45), (.ref a54), .null, .null, .null, .null]) :: (a3, .int, "[I", [(.int (za 0)), (.int (za 1)), (.int (za 2)), (.int (za 3)), (.int (za 4)), (.int (za 5))]) :: []) := H60
    refine own_aload K own_d11_96 rfl rfl ?_
    refine own_iconst K own_d11_98 (v := (2 : Int32)) rfl ?_
    refine own_new K own_d11_99 (own_w6 hw) (own_w8 hw) (own_w9 hw) H60 (own_CN_F hw) (own_CN_P hw) (by decide) (by decide) ?_
    intro h61 a63 H62
    replace H62 : own_H Z h61 (own_CN a63 (.double (0 : UInt64)) .null (.int (0 : Int32)) (.int (0 : Int32)) :: own_CN a54 (.double (FP.i2d (za 1))) .null (.int (0 : Int32)) (.int (1 : Int32)) :: own_CN a45 (.double (FP.i2d (za 0))) .null (.int (0 : Int32)) (.int (1 : Int32)) :: []) ((a42, (.object "com/example/slotwise/slotwise/Simulation$Connection"), "[Lcom/example/slotwise/slotwise/Simulation$Connection;", [(.ref a45), (.ref a54), .null, .null, .null, .null]) :: (a3, .int, "[I", [(.int (za 0)), (.int (za 1)), (.int (za 2)), (.int (za 3)), (.int (za 4)), (.int (za 5))]) :: []) := H62
    refine own_dup K own_d11_102 rfl ?_
    refine own_aloadN K own_d11_103 rfl rfl ?_
    refine own_iconst K own_d11_104 (v := (2 : Int32)) rfl ?_
    refine own_iaload K own_d11_105 H62 (i := 1) rfl (q := 2) (by decide) (rfl) ?_
    refine own_i2d K own_d11_106 ?_
    refine own_aconstNull K own_d11_107 ?_
    refine own_iconst K own_d11_108 (v := (0 : Int32)) rfl ?_
    refine own_iconst K own_d11_109 (v := (1 : Int32)) rfl ?_
    refine own_special K own_d11_110 rfl (own_w10 hw) (own_w11 hw) (own_w9 hw) (own_w12 hw) (a := a63) (argsL := [(.double (FP.i2d (za 2))), .null, (.int (0 : Int32)), (.int (1 : Int32))]) (rest := [(.ref a63), (.int (2 : Int32)), (.ref a42)]) (own_ni hw H62) own_pd4 rfl rfl rfl (by decide) (W := 3) (Nat.le_of_eq rfl) (by decide) (by decide) (by decide) (by decide) ?_
    intro v66 h64 q65
    obtain ⟨rfl, H67⟩ := q65
    replace H67 : own_H Z h64 (own_CN a63 (.double (FP.i2d (za 2))) .null (.int (0 : Int32)) (.int (1 : Int32)) :: own_CN a54 (.double (FP.i2d (za 1))) .null (.int (0 : Int32)) (.int (1 : Int32)) :: own_CN a45 (.double (FP.i2d (za 0))) .null (.int (0 : Int32)) (.int (1 : Int32)) :: []) ((a42, (.object "com/example/slotwise/slotwise/Simulation$Connection"), "[Lcom/example/slotwise/slotwise/Simulation$Connection;", [(.ref a45), (.ref a54), .null, .null, .null, .null]) :: (a3, .int, "[I", [(.int (za 0)), (.int (za 1)), (.int (za 2)), (.int (za 3)), (.int (za 4)), (.int (za 5))]) :: []) := H67
    refine own_aastoreR K own_d11_113 H67 (i := 0) rfl (by decide) (Ins.self (H67.atO (i := 0) rfl)) (q := 2) (by decide) (own_le rfl) ?_
    intro h68 H69
    replace H69 : own_H Z h68 (own_CN a63 (.double (FP.i2d (za 2))) .null (.int (0 : Int32)) (.int (1 : Int32)) :: own_CN a54 (.double (FP.i2d (za 1))) .null (.int (0 : Int32)) (.int (1 : Int32)) :: own_CN a45 (.double (FP.i2d (za 0))) .null (.int (0 : Int32)) (.int (1 : Int32)) :: []) ((a42, (.object "com/example/slotwise/slotwise/Simulation$Connection"), "[Lcom/example/slotwise/slotwise/Simulation$Connection;", [(.ref a45), (.ref a54), (.ref a63), .null, .null, .null]) :: (a3, .int, "[I", [(.int (za 0)), (.int (za 1)), (.int (za 2)), (.int (za 3)), (.int (za 4)), (.int (za 5))]) :: []) := H69
    refine own_aload K own_d11_114 rfl rfl ?_
    refine own_iconst K own_d11_116 (v := (3 : Int32)) rfl ?_
    refine own_new K own_d11_117 (own_w6 hw) (own_w8 hw) (own_w9 hw) H69 (own_CN_F hw) (own_CN_P hw) (by decide) (by decide) ?_
    intro h70 a72 H71
    replace H71 : own_H Z h70 (own_CN a72 (.double (0 : UInt64)) .null (.int (0 : Int32)) (.int (0 : Int32)) :: own_CN a63 (.double (FP.i2d (za 2))) .null (.int (0 : Int32)) (.int (1 : Int32)) :: own_CN a54 (.double (FP.i2d (za 1))) .null (.int (0 : Int32)) (.int (1 : Int32)) :: own_CN a45 (.double (FP.i2d (za 0))) .null (.int (0 : Int32)) (.int (1 : Int32)) :: []) ((a42, (.object "com/example/slotwise/slotwise/Simulation$Connection"), "[Lcom/example/slotwise/slotwise/Simulation$Connection;", [(.ref a45), (.ref a54), (.ref a63), .null, .null, .null]) :: (a3, .int, "[I", [(.int (za 0)), (.int (za 1)), (.int (za 2)), (.int (za 3)), (.int (za 4)), (.int (za 5))]) :: []) := H71
    refine own_dup K own_d11_120 rfl ?_
    refine own_aloadN K own_d11_121 rfl rfl ?_
    refine own_iconst K own_d11_122 (v := (3 : Int32)) rfl ?_
    refine own_iaload K own_d11_123 H71 (i := 1) rfl (q := 3) (by decide) (rfl) ?_
    refine own_i2d K own_d11_124 ?_
    refine own_aconstNull K own_d11_125 ?_
    refine own_iconst K own_d11_126 (v := (0 : Int32)) rfl ?_
    refine own_iconst K own_d11_127 (v := (1 : Int32)) rfl ?_
    refine own_special K own_d11_128 rfl (own_w10 hw) (own_w11 hw) (own_w9 hw) (own_w12 hw) (a := a72) (argsL := [(.double (FP.i2d (za 3))), .null, (.int (0 : Int32)), (.int (1 : Int32))]) (rest := [(.ref a72), (.int (3 : Int32)), (.ref a42)]) (own_ni hw H71) own_pd4 rfl rfl rfl (by decide) (W := 3) (Nat.le_of_eq rfl) (by decide) (by decide) (by decide) (by decide) ?_
    intro v75 h73 q74
    obtain ⟨rfl, H76⟩ := q74
    replace H76 : own_H Z h73 (own_CN a72 (.double (FP.i2d (za 3))) .null (.int (0 : Int32)) (.int (1 : Int32)) :: own_CN a63 (.double (FP.i2d (za 2))) .null (.int (0 : Int32)) (.int (1 : Int32)) :: own_CN a54 (.double (FP.i2d (za 1))) .null (.int (0 : Int32)) (.int (1 : Int32)) :: own_CN a45 (.double (FP.i2d (za 0))) .null (.int (0 : Int32)) (.int (1 : Int32)) :: []) ((a42, (.object "com/example/slotwise/slotwise/Simulation$Connection"), "[Lcom/example/slotwise/slotwise/Simulation$Connection;", [(.ref a45), (.ref a54), (.ref a63), .null, .null, .null]) :: (a3, .int, "[I", [(.int (za 0)), (.int (za 1)), (.int (za 2)), (.int (za 3)), (.int (za 4)), (.int (za 5))]) :: []) := H76
    refine own_aastoreR K own_d11_131 H76 (i := 0) rfl (by decide) (Ins.self (H76.atO (i := 0) rfl)) (q := 3) (by decide) (own_le rfl) ?_
    intro h77 H78
    replace H78 : own_H Z h77 (own_CN a72 (.double (FP.i2d (za 3))) .null (.int (0 : Int32)) (.int (1 : Int32)) :: own_CN a63 (.double (FP.i2d (za 2))) .null (.int (0 : Int32)) (.int (1 : Int32)) :: own_CN a54 (.double (FP.i2d (za 1))) .null (.int (0 : Int32)) (.int (1 : Int32)) :: own_CN a45 (.double (FP.i2d (za 0))) .null (.int (0 : Int32)) (.int (1 : Int32)) :: []) ((a42, (.object "com/example/slotwise/slotwise/Simulation$Connection"), "[Lcom/example/slotwise/slotwise/Simulation$Connection;", [(.ref a45), (.ref a54), (.ref a63), (.ref a72), .null, .null]) :: (a3, .int, "[I", [(.int (za 0)), (.int (za 1)), (.int (za 2)), (.int (za 3)), (.int (za 4)), (.int (za 5))]) :: []) := H78
    refine own_aload K own_d11_132 rfl rfl ?_
    refine own_iconst K own_d11_134 (v := (4 : Int32)) rfl ?_
    refine own_new K own_d11_135 (own_w6 hw) (own_w8 hw) (own_w9 hw) H78 (own_CN_F hw) (own_CN_P hw) (by decide) (by decide) ?_
    intro h79 a81 H80
    replace H80 : own_H Z h79 (own_CN a81 (.double (0 : UInt64)) .null (.int (0 : Int32)) (.int (0 : Int32)) :: own_CN a72 (.double (FP.i2d (za 3))) .null (.int (0 : Int32)) (.int (1 : Int32)) :: own_CN a63 (.double (FP.i2d (za 2))) .null (.int (0 : Int32)) (.int (1 : Int32)) :: own_CN a54 (.double (FP.i2d (za 1))) .null (.int (0 : Int32)) (.int (1 : Int32)) :: own_CN a45 (.double (FP.i2d (za 0))) .null (.int (0 : Int32)) (.int (1 : Int32)) :: []) ((a42, (.object "com/example/slotwise/slotwise/Simulation$Connection"), "[Lcom/example/slotwise/slotwise/Simulation$Connection;", [(.ref a45), (.ref a54), (.ref a63), (.ref a72), .null, .null]) :: (a3, .int, "[I", [(.int (za 0)), (.int (za 1)), (.int (za 2)), (.int (za 3)), (.int (za 4)), (.int (za 5))]) :: []) := H80
    refine own_dup K own_d11_138 rfl ?_
    refine own_aloadN K own_d11_139 rfl rfl ?_
    refine own_iconst K own_d11_140 (v := (4 : Int32)) rfl ?_
    refine own_iaload K own_d11_141 H80 (i := 1) rfl (q := 4) (by decide) (rfl) ?_
    refine own_i2d K own_d11_142 ?_
    refine own_aconstNull K own_d11_143 ?_
    refine own_iconst K own_d11_144 (v := (0 : Int32)) rfl ?_
    refine own_iconst K own_d11_145 (v := (1 : Int32)) rfl ?_
    refine own_special K own_d11_146 rfl (own_w10 hw) (own_w11 hw) (own_w9 hw) (own_w12 hw) (a := a81) (argsL := [(.double (FP.i2d (za 4))), .null, (.int (0 : Int32)), (.int (1 : Int32))]) (rest := [(.ref a81), (.int (4 : Int32)), (.ref a42)]) (own_ni hw H80) own_pd4 rfl rfl rfl (by decide) (W := 3) (Nat.le_of_eq rfl) (by decide) (by decide) (by decide) (by decide) ?_
    intro v84 h82 q83
    obtain ⟨rfl, H85⟩ := q83
    replace H85 : own_H Z h82 (own_CN a81 (.double (FP.i2d (za 4))) .null (.int (0 : Int32)) (.int (1 : Int32)) :: own_CN a72 (.double (FP.i2d (za 3))) .null (.int (0 : Int32)) (.int (1 : Int32)) :: own_CN a63 (.double (FP.i2d (za 2))) .null (.int (0 : Int32)) (.int (1 : Int32)) :: own_CN a54 (.double (FP.i2d (za 1))) .null (.int (0 : Int32)) (.int (1 : Int32)) :: own_CN a45 (.double (FP.i2d (za 0))) .null (.int (0 : Int32)) (.int (1 : Int32)) :: []) ((a42, (.object "com/example/slotwise/slotwise/Simulation$Connection"), "[Lcom/example/slotwise/slotwise/Simulation$Connection;", [(.ref a45), (.ref a54), (.ref a63), (.ref a72), .null, .null]) :: (a3, .int, "[I", [(.int (za 0)), (.int (za 1)), (.int (za 2)), (.int (za 3)), (.int (za 4)), (.int (za 5))]) :: []) := H85
    refine own_aastoreR K own_d11_149 H85 (i := 0) rfl (by decide) (Ins.self (H85.atO (i := 0) rfl)) (q := 4) (by decide) (own_le rfl) ?_
    intro h86 H87
    replace H87 : own_H Z h86 (own_CN a81 (.double (FP.i2d (za 4))) .null (.int (0 : Int32)) (.int (1 : Int32)) :: own_CN a72 (.double (FP.i2d (za 3))) .null (.int (0 : Int32)) (.int (1 : Int32)) :: own_CN a63 (.double (FP.i2d (za 2))) .null (.int (0 : Int32)) (.int (1 : Int32)) :: own_CN a54 (.double (FP.i2d (za 1))) .null (.int (0 : Int32)) (.int (1 : Int32)) :: own_CN a45 (.double (FP.i2d (za 0))) .null (.int (0 : Int32)) (.int (1 : Int32)) :: []) ((a42, (.object "com/example/slotwise/slotwise/Simulation$Connection"), "[Lcom/example/slotwise/slotwise/Simulation$Connection;", [(.ref a45), (.ref a54), (.ref a63), (.ref a72), (.ref a81), .null]) :: (a3, .int, "[I", [(.int (za 0)), (.int (za 1)), (.int (za 2)), (.int (za 3)), (.int (za 4)), (.int (za 5))]) :: []) := H87
    refine own_aload K own_d11_150 rfl rfl ?_
    refine own_iconst K own_d11_152 (v := (5 : Int32)) rfl ?_
    refine own_new K own_d11_153 (own_w6 hw) (own_w8 hw) (own_w9 hw) H87 (own_CN_F hw) (own_CN_P hw) (by decide) (by decide) ?_
    intro h88 a90 H89
    replace H89 : own_H Z h88 (own_CN a90 (.double (0 : UInt64)) .null (.int (0 : Int32)) (.int (0 : Int32)) :: own_CN a81 (.double (FP.i2d (za 4))) .null (.int (0 : Int32)) (.int (1 : Int32)) :: own_CN a72 (.double (FP.i2d (za 3))) .null (.int (0 : Int32)) (.int (1 : Int32)) :: own_CN a63 (.double (FP.i2d (za 2))) .null (.int (0 : Int32)) (.int (1 : Int32)) :: own_CN a54 (.double (FP.i2d (za 1))) .null (.int (0 : Int32)) (.int (1 : Int32)) :: own_CN a45 (.double (FP.i2d (za 0))) .null (.int (0 : Int32)) (.int (1 : Int32)) :: []) ((a42, (.object "com/example/slotwise/slotwise/Simulation$Connection"), "[Lcom/example/slotwise/slotwise/Simulation$Connection;", [(.ref a45), (.ref a54), (.ref a63), (.ref a72), (.ref a81), .null]) :: (a3, .int, "[I", [(.int (za 0)), (.int (za 1)), (.int (za 2)), (.int (za 3)), (.int (za 4)), (.int (za 5))]) :: []) := H89
    refine own_dup K own_d11_156 rfl ?_
    refine own_aloadN K own_d11_157 rfl rfl ?_
    refine own_iconst K own_d11_158 (v := (5 : Int32)) rfl ?_
    refine own_iaload K own_d11_159 H89 (i := 1) rfl (q := 5) (by decide) (rfl) ?_
    refine own_i2d K own_d11_160 ?_
    refine own_aconstNull K own_d11_161 ?_
    refine own_iconst K own_d11_162 (v := (0 : Int32)) rfl ?_
    refine own_iconst K own_d11_163 (v := (1 : Int32)) rfl ?_
    refine own_special K own_d11_164 rfl (own_w10 hw) (own_w11 hw) (own_w9 hw) (own_w12 hw) (a := a90) (argsL := [(.double (FP.i2d (za 5))), .null, (.int (0 : Int32)), (.int (1 : Int32))]) (rest := [(.ref a90), (.int (5 : Int32)), (.ref a42)]) (own_ni hw H89) own_pd4 rfl rfl rfl (by decide) (W := 3) (Nat.le_of_eq rfl) (by decide) (by decide) (by decide) (by decide) ?_
    intro v93 h91 q92
    obtain ⟨rfl, H94⟩ := q92
    replace H94 : own_H Z h91 (own_CN a90 (.double (FP.i2d (za 5))) .null (.int (0 : Int32)) (.int (1 : Int32)) :: own_CN a81 (.double (FP.i2d (za 4))) .null (.int (0 : Int32)) (.int (1 : Int32)) :: own_CN a72 (.double (FP.i2d (za 3))) .null (.int (0 : Int32)) (.int (1 : Int32)) :: own_CN a63 (.double (FP.i2d (za 2))) .null (.int (0 : Int32)) (.int (1 : Int32)) :: own_CN a54 (.double (FP.i2d (za 1))) .null (.int (0 : Int32)) (.int (1 : Int32)) :: own_CN a45 (.double (FP.i2d (za 0))) .null (.int (0 : Int32)) (.int (1 : Int32)) :: []) ((a42, (.object "com/example/slotwise/slotwise/Simulation$Connection"), "[Lcom/example/slotwise/slotwise/Simulation$Connection;", [(.ref a45), (.ref a54), (.ref a63), (.ref a72), (.ref a81), .null]) :: (a3, .int, "[I", [(.int (za 0)), (.int (za 1)), (.int (za 2)), (.int (za 3)), (.int (za 4)), (.int (za 5))]) :: []) := H94
    refine own_aastoreR K own_d11_167 H94 (i := 0) rfl (by decide) (Ins.self (H94.atO (i := 0) rfl)) (q := 5) (by decide) (own_le rfl) ?_
    intro h95 H96
    replace H96 : own_H Z h95 (own_CN a90 (.double (FP.i2d (za 5))) .null (.int (0 : Int32)) (.int (1 : Int32)) :: own_CN a81 (.double (FP.i2d (za 4))) .null (.int (0 : Int32)) (.int (1 : Int32)) :: own_CN a72 (.double (FP.i2d (za 3))) .null (.int (0 : Int32)) (.int (1 : Int32)) :: own_CN a63 (.double (FP.i2d (za 2))) .null (.int (0 : Int32)) (.int (1 : Int32)) :: own_CN a54 (.double (FP.i2d (za 1))) .null (.int (0 : Int32)) (.int (1 : Int32)) :: own_CN a45 (.double (FP.i2d (za 0))) .null (.int (0 : Int32)) (.int (1 : Int32)) :: []) ((a42, (.object "com/example/slotwise/slotwise/Simulation$Connection"), "[Lcom/example/slotwise/slotwise/Simulation$Connection;", [(.ref a45), (.ref a54), (.ref a63), (.ref a72), (.ref a81), (.ref a90)]) :: (a3, .int, "[I", [(.int (za 0)), (.int (za 1)), (.int (za 2)), (.int (za 3)), (.int (za 4)), (.int (za 5))]) :: []) := H96
    obtain ⟨aa, ea0, ea1, ea2, ea3, ea4, ea5⟩ : ∃ aa : Nat → Addr, a45 = aa 0 ∧ a54 = aa 1 ∧ a63 = aa 2 ∧ a72 = aa 3 ∧ a81 = aa 4 ∧ a90 = aa 5 := ⟨fun j => [a45, a54, a63, a72, a81, a90].getD j 0, rfl, rfl, rfl, rfl, rfl, rfl⟩
    subst ea0 ea1 ea2 ea3 ea4 ea5
    replace H96 : own_H Z h95 (own_CN (aa 5) (.double (FP.i2d (za 5))) .null (.int (0 : Int32)) (.int (1 : Int32)) :: own_CN (aa 4) (.double (FP.i2d (za 4))) .null (.int (0 : Int32)) (.int (1 : Int32)) :: own_CN (aa 3) (.double (FP.i2d (za 3))) .null (.int (0 : Int32)) (.int (1 : Int32)) :: own_CN (aa 2) (.double (FP.i2d (za 2))) .null (.int (0 : Int32)) (.int (1 : Int32)) :: own_CN (aa 1) (.double (FP.i2d (za 1))) .null (.int (0 : Int32)) (.int (1 : Int32)) :: own_CN (aa 0) (.double (FP.i2d (za 0))) .null (.int (0 : Int32)) (.int (1 : Int32)) :: []) ((a42, (.object "com/example/slotwise/slotwise/Simulation$Connection"), "[Lcom/example/slotwise/slotwise/Simulation$Connection;", [(.ref (aa 0)), (.ref (aa 1)), (.ref (aa 2)), (.ref (aa 3)), (.ref (aa 4)), (.ref (aa 5))]) :: (a3, .int, "[I", [(.int (za 0)), (.int (za 1)), (.int (za 2)), (.int (za 3)), (.int (za 4)), (.int (za 5))]) :: []) := H96
    have n01 : aa 0 ≠ aa 1 := H96.neOO (i := 5) (j := 4) rfl rfl (by decide)
    have n02 : aa 0 ≠ aa 2 := H96.neOO (i := 5) (j := 3) rfl rfl (by decide)
    have n03 : aa 0 ≠ aa 3 := H96.neOO (i := 5) (j := 2) rfl rfl (by decide)
    have n04 : aa 0 ≠ aa 4 := H96.neOO (i := 5) (j := 1) rfl rfl (by decide)
    have n05 : aa 0 ≠ aa 5 := H96.neOO (i := 5) (j := 0) rfl rfl (by decide)
    have n12 : aa 1 ≠ aa 2 := H96.neOO (i := 4) (j := 3) rfl rfl (by decide)
    have n13 : aa 1 ≠ aa 3 := H96.neOO (i := 4) (j := 2) rfl rfl (by decide)
    have n14 : aa 1 ≠ aa 4 := H96.neOO (i := 4) (j := 1) rfl rfl (by decide)
    have n15 : aa 1 ≠ aa 5 := H96.neOO (i := 4) (j := 0) rfl rfl (by decide)
    have n23 : aa 2 ≠ aa 3 := H96.neOO (i := 3) (j := 2) rfl rfl (by decide)
    have n24 : aa 2 ≠ aa 4 := H96.neOO (i := 3) (j := 1) rfl rfl (by decide)
    have n25 : aa 2 ≠ aa 5 := H96.neOO (i := 3) (j := 0) rfl rfl (by decide)
    have n34 : aa 3 ≠ aa 4 := H96.neOO (i := 2) (j := 1) rfl rfl (by decide)
    have n35 : aa 3 ≠ aa 5 := H96.neOO (i := 2) (j := 0) rfl rfl (by decide)
    have n45 : aa 4 ≠ aa 5 := H96.neOO (i := 1) (j := 0) rfl rfl (by decide)
    have hne : ∀ i j, i < 6 → j < 6 → i ≠ j → aa i ≠ aa j := by intro i j hi hj hij; rcases own_lt6 hi with q' | q' | q' | q' | q' | q' <;> rcases own_lt6 hj with r' | r' | r' | r' | r' | r' <;> subst q' <;> subst r' <;> first | exact absurd rfl hij | assumption | (apply Ne.symm; assumption)
    have ho : ∀ j, j < 6 → ∃ i : Nat, ((own_CN (aa 5) (.double (FP.i2d (za 5))) .null (.int (0 : Int32)) (.int (1 : Int32)) :: own_CN (aa 4) (.double (FP.i2d (za 4))) .null (.int (0 : Int32)) (.int (1 : Int32)) :: own_CN (aa 3) (.double (FP.i2d (za 3))) .null (.int (0 : Int32)) (.int (1 : Int32)) :: own_CN (aa 2) (.double (FP.i2d (za 2))) .null (.int (0 : Int32)) (.int (1 : Int32)) :: own_CN (aa 1) (.double (FP.i2d (za 1))) .null (.int (0 : Int32)) (.int (1 : Int32)) :: own_CN (aa 0) (.double (FP.i2d (za 0))) .null (.int (0 : Int32)) (.int (1 : Int32)) :: []) : List own_O)[i]? = some (own_c aa za j) := by intro j hj; rcases own_lt6 hj with q' | q' | q' | q' | q' | q' <;> subst q' <;> first | exact ⟨0, rfl⟩ | exact ⟨1, rfl⟩ | exact ⟨2, rfl⟩ | exact ⟨3, rfl⟩ | exact ⟨4, rfl⟩ | exact ⟨5, rfl⟩
    refine own_iloadN K own_d11_168 rfl ?_
    refine own_iconst K own_d11_169 (v := (3 : Int32)) rfl ?_
    refine own_iand K own_d11_170 ?_
    refine own_topI (x' := (1 : Int32)) (q) ?_
    refine own_istore K own_d11_171 (Ls' := #[.val (.long pk), .second, .val (.int mo), .val (.ref a3), .val (.ref a42), .val (.int (1 : Int32)), .unset, .unset, .unset, .unset, .unset, .unset, .unset, .unset, .unset, .unset, .unset, .unset, .unset, .unset, .unset, .unset, .unset, .unset, .unset, .unset, .unset]) rfl ?_
    refine own_iload K own_d11_173 rfl ?_
    refine own_ifne K own_d11_175 (fun _ => ?_) (fun q => absurd (by decide) q)
    refine own_iload K own_d11_183 rfl ?_
    refine own_iconst K own_d11_185 (v := (1 : Int32)) rfl ?_
    refine own_icmpne K own_d11_186 (fun q => absurd q (by decide)) (fun _ => ?_)
    refine own_iconst K own_d11_189 (v := (5 : Int32)) rfl ?_
    refine own_goto K own_d11_190 ?_
    refine own_istore K own_d11_204 (Ls' := #[.val (.long pk), .second, .val (.int mo), .val (.ref a3), .val (.ref a42), .val (.int (1 : Int32)), .val (.int (5 : Int32)), .unset, .unset, .unset, .unset, .unset, .unset, .unset, .unset, .unset, .unset, .unset, .unset, .unset, .unset, .unset, .unset, .unset, .unset, .unset, .unset]) rfl ?_
    refine own_new K own_d11_206 (own_w30 hw) (own_w31 hw) (own_w32 hw) H96 (own_DP_F hw) (own_DP_P hw) (by decide) (by decide) ?_
    intro h97 a99 H98
    replace H98 : own_H Z h97 (own_DP a99 .null .null (.int (0 : Int32)) :: own_CN (aa 5) (.double (FP.i2d (za 5))) .null (.int (0 : Int32)) (.int (1 : Int32)) :: own_CN (aa 4) (.double (FP.i2d (za 4))) .null (.int (0 : Int32)) (.int (1 : Int32)) :: own_CN (aa 3) (.double (FP.i2d (za 3))) .null (.int (0 : Int32)) (.int (1 : Int32)) :: own_CN (aa 2) (.double (FP.i2d (za 2))) .null (.int (0 : Int32)) (.int (1 : Int32)) :: own_CN (aa 1) (.double (FP.i2d (za 1))) .null (.int (0 : Int32)) (.int (1 : Int32)) :: own_CN (aa 0) (.double (FP.i2d (za 0))) .null (.int (0 : Int32)) (.int (1 : Int32)) :: []) ((a42, (.object "com/example/slotwise/slotwise/Simulation$Connection"), "[Lcom/example/slotwise/slotwise/Simulation$Connection;", [(.ref (aa 0)), (.ref (aa 1)), (.ref (aa 2)), (.ref (aa 3)), (.ref (aa 4)), (.ref (aa 5))]) :: (a3, .int, "[I", [(.int (za 0)), (.int (za 1)), (.int (za 2)), (.int (za 3)), (.int (za 4)), (.int (za 5))]) :: []) := H98
    refine own_dup K own_d11_209 rfl ?_
    refine own_special K own_d11_210 rfl (own_w33 hw) (own_w34 hw) (own_w32 hw) (own_w35 hw) (a := a99) (argsL := []) (rest := [(.ref a99)]) (own_di hw H98) own_pd1 rfl rfl rfl (by decide) (W := 1) (Nat.le_of_eq rfl) (by decide) (by decide) (by decide) (by decide) ?_
    intro v102 h100 q101
    obtain ⟨rfl, ta104, ca105, H103⟩ := q101
    replace H103 : own_H Z h100 (own_DP a99 (.ref ta104) (.ref ca105) (.int (0 : Int32)) :: own_CN (aa 5) (.double (FP.i2d (za 5))) .null (.int (0 : Int32)) (.int (1 : Int32)) :: own_CN (aa 4) (.double (FP.i2d (za 4))) .null (.int (0 : Int32)) (.int (1 : Int32)) :: own_CN (aa 3) (.double (FP.i2d (za 3))) .null (.int (0 : Int32)) (.int (1 : Int32)) :: own_CN (aa 2) (.double (FP.i2d (za 2))) .null (.int (0 : Int32)) (.int (1 : Int32)) :: own_CN (aa 1) (.double (FP.i2d (za 1))) .null (.int (0 : Int32)) (.int (1 : Int32)) :: own_CN (aa 0) (.double (FP.i2d (za 0))) .null (.int (0 : Int32)) (.int (1 : Int32)) :: []) ((ta104, .double, "[D", ((.double (0 : UInt64)) :: (.double (0 : UInt64)) :: (.double (0 : UInt64)) :: (.double (0 : UInt64)) :: (.double (0 : UInt64)) :: (.double (0 : UInt64)) :: (List.replicate 58 (.double (0 : UInt64))))) :: (ca105, (.object "com/example/slotwise/slotwise/Simulation$Connection"), "[Lcom/example/slotwise/slotwise/Simulation$Connection;", (.null :: .null :: .null :: .null :: .null :: .null :: (List.replicate 58 .null))) :: (a42, (.object "com/example/slotwise/slotwise/Simulation$Connection"), "[Lcom/example/slotwise/slotwise/Simulation$Connection;", [(.ref (aa 0)), (.ref (aa 1)), (.ref (aa 2)), (.ref (aa 3)), (.ref (aa 4)), (.ref (aa 5))]) :: (a3, .int, "[I", [(.int (za 0)), (.int (za 1)), (.int (za 2)), (.int (za 3)), (.int (za 4)), (.int (za 5))]) :: []) := H103
    refine own_astore K own_d11_213 rfl (Ls' := #[.val (.long pk), .second, .val (.int mo), .val (.ref a3), .val (.ref a42), .val (.int (1 : Int32)), .val (.int (5 : Int32)), .val (.ref a99), .unset, .unset, .unset, .unset, .unset, .unset, .unset, .unset, .unset, .unset, .unset, .unset, .unset, .unset, .unset, .unset, .unset, .unset, .unset]) rfl ?_
    refine own_aload K own_d11_215 rfl rfl ?_
    refine own_aload K own_d11_217 rfl rfl ?_
    refine own_iconst K own_d11_219 (v := (0 : Int32)) rfl ?_
    refine own_aaload K own_d11_220 H103 (i := 2) rfl rfl (q := 0) (by decide) (rfl) ?_
    refine own_virtual K own_d11_221 (own_w43 hw) (own_w44 hw) (own_w46 hw) (own_w45 hw) (own_w32 hw) (own_w47 hw) (H103.atO (i := 0) rfl) (a := a99) (argsL := [(.ref (aa 0))]) (rest := []) (own_add0 hw (j := 0) (by rfl) H103 ho (by decide)  ) own_pd5 rfl rfl rfl (by decide) (W := 0) (Nat.le_of_eq rfl) (by decide) (by decide) (by decide) (by decide) ?_
    intro v108 h106 q107
    obtain ⟨rfl, k109, pm110, ltk109, H111⟩ := q107
    have PM112 : List.Perm [k109] [0] := ((List.Perm.append_left [] pm110).trans List.perm_middle).trans (List.Perm.cons 0 (List.Perm.nil : List.Perm ([] : List Nat) []))
    replace H111 : own_H Z h106 (own_DP a99 (.ref ta104) (.ref ca105) (.int (1 : Int32)) :: own_CN (aa 5) (.double (FP.i2d (za 5))) .null (.int (0 : Int32)) (.int (1 : Int32)) :: own_CN (aa 4) (.double (FP.i2d (za 4))) .null (.int (0 : Int32)) (.int (1 : Int32)) :: own_CN (aa 3) (.double (FP.i2d (za 3))) .null (.int (0 : Int32)) (.int (1 : Int32)) :: own_CN (aa 2) (.double (FP.i2d (za 2))) .null (.int (0 : Int32)) (.int (1 : Int32)) :: own_CN (aa 1) (.double (FP.i2d (za 1))) .null (.int (0 : Int32)) (.int (1 : Int32)) :: own_CN (aa 0) (.double (FP.i2d (za 0))) .null (.int (0 : Int32)) (.int (1 : Int32)) :: []) ((ta104, .double, "[D", ((.double (FP.i2d (za k109))) :: (.double (0 : UInt64)) :: (.double (0 : UInt64)) :: (.double (0 : UInt64)) :: (.double (0 : UInt64)) :: (.double (0 : UInt64)) :: (List.replicate 58 (.double (0 : UInt64))))) :: (ca105, (.object "com/example/slotwise/slotwise/Simulation$Connection"), "[Lcom/example/slotwise/slotwise/Simulation$Connection;", ((.ref (aa k109)) :: .null :: .null :: .null :: .null :: .null :: (List.replicate 58 .null))) :: (a42, (.object "com/example/slotwise/slotwise/Simulation$Connection"), "[Lcom/example/slotwise/slotwise/Simulation$Connection;", [(.ref (aa 0)), (.ref (aa 1)), (.ref (aa 2)), (.ref (aa 3)), (.ref (aa 4)), (.ref (aa 5))]) :: (a3, .int, "[I", [(.int (za 0)), (.int (za 1)), (.int (za 2)), (.int (za 3)), (.int (za 4)), (.int (za 5))]) :: []) := H111
    refine own_iload K own_d11_224 rfl ?_
    refine own_iconst K own_d11_226 (v := (1 : Int32)) rfl ?_
    refine own_icmple K own_d11_227 (fun q => absurd q (by decide)) (fun _ => ?_)
    refine own_aload K own_d11_230 rfl rfl ?_
    refine own_aload K own_d11_232 rfl rfl ?_
    refine own_iconst K own_d11_234 (v := (1 : Int32)) rfl ?_
    refine own_aaload K own_d11_235 H111 (i := 2) rfl rfl (q := 1) (by decide) (rfl) ?_
    refine own_virtual K own_d11_236 (own_w43 hw) (own_w44 hw) (own_w46 hw) (own_w45 hw) (own_w32 hw) (own_w47 hw) (H111.atO (i := 0) rfl) (a := a99) (argsL := [(.ref (aa 1))]) (rest := []) (own_add1 hw (j := 1) (by rfl) H111 ho (by decide) ltk109 ) own_pd5 rfl rfl rfl (by decide) (W := 0) (Nat.le_of_eq rfl) (by decide) (by decide) (by decide) (by decide) ?_
    intro v115 h113 q114
    obtain ⟨rfl, k116, k117, pm118, hp120, ltk116, ltk117, H119⟩ := q114
    have PM121 : List.Perm [k116, k117] [1, 0] := ((List.Perm.append_left [] pm118).trans List.perm_middle).trans (List.Perm.cons 1 PM112)
    replace H119 : own_H Z h113 (own_DP a99 (.ref ta104) (.ref ca105) (.int (2 : Int32)) :: own_CN (aa 5) (.double (FP.i2d (za 5))) .null (.int (0 : Int32)) (.int (1 : Int32)) :: own_CN (aa 4) (.double (FP.i2d (za 4))) .null (.int (0 : Int32)) (.int (1 : Int32)) :: own_CN (aa 3) (.double (FP.i2d (za 3))) .null (.int (0 : Int32)) (.int (1 : Int32)) :: own_CN (aa 2) (.double (FP.i2d (za 2))) .null (.int (0 : Int32)) (.int (1 : Int32)) :: own_CN (aa 1) (.double (FP.i2d (za 1))) .null (.int (0 : Int32)) (.int (1 : Int32)) :: own_CN (aa 0) (.double (FP.i2d (za 0))) .null (.int (0 : Int32)) (.int (1 : Int32)) :: []) ((ta104, .double, "[D", ((.double (FP.i2d (za k116))) :: (.double (FP.i2d (za k117))) :: (.double (0 : UInt64)) :: (.double (0 : UInt64)) :: (.double (0 : UInt64)) :: (.double (0 : UInt64)) :: (List.replicate 58 (.double (0 : UInt64))))) :: (ca105, (.object "com/example/slotwise/slotwise/Simulation$Connection"), "[Lcom/example/slotwise/slotwise/Simulation$Connection;", ((.ref (aa k116)) :: (.ref (aa k117)) :: .null :: .null :: .null :: .null :: (List.replicate 58 .null))) :: (a42, (.object "com/example/slotwise/slotwise/Simulation$Connection"), "[Lcom/example/slotwise/slotwise/Simulation$Connection;", [(.ref (aa 0)), (.ref (aa 1)), (.ref (aa 2)), (.ref (aa 3)), (.ref (aa 4)), (.ref (aa 5))]) :: (a3, .int, "[I", [(.int (za 0)), (.int (za 1)), (.int (za 2)), (.int (za 3)), (.int (za 4)), (.int (za 5))]) :: []) := H119
    refine own_iload K own_d11_239 rfl ?_
    refine own_iconst K own_d11_241 (v := (2 : Int32)) rfl ?_
    refine own_icmple K own_d11_242 (fun q => absurd q (by decide)) (fun _ => ?_)
    refine own_aload K own_d11_245 rfl rfl ?_
    refine own_aload K own_d11_247 rfl rfl ?_
    refine own_iconst K own_d11_249 (v := (2 : Int32)) rfl ?_
    refine own_aaload K own_d11_250 H119 (i := 2) rfl rfl (q := 2) (by decide) (rfl) ?_
    refine own_virtual K own_d11_251 (own_w43 hw) (own_w44 hw) (own_w46 hw) (own_w45 hw) (own_w32 hw) (own_w47 hw) (H119.atO (i := 0) rfl) (a := a99) (argsL := [(.ref (aa 2))]) (rest := []) (own_add2 hw (j := 2) (by rfl) H119 ho (by decide) ltk116 ltk117 hp120) own_pd5 rfl rfl rfl (by decide) (W := 0) (Nat.le_of_eq rfl) (by decide) (by decide) (by decide) (by decide) ?_
    intro v124 h122 q123
    obtain ⟨rfl, k125, k126, k127, pm128, hp130, hp131, ltk125, ltk126, ltk127, H129⟩ := q123
    have PM132 : List.Perm [k125, k126, k127] [2, 1, 0] := ((List.Perm.append_left [] pm128).trans List.perm_middle).trans (List.Perm.cons 2 PM121)
    replace H129 : own_H Z h122 (own_DP a99 (.ref ta104) (.ref ca105) (.int (3 : Int32)) :: own_CN (aa 5) (.double (FP.i2d (za 5))) .null (.int (0 : Int32)) (.int (1 : Int32)) :: own_CN (aa 4) (.double (FP.i2d (za 4))) .null (.int (0 : Int32)) (.int (1 : Int32)) :: own_CN (aa 3) (.double (FP.i2d (za 3))) .null (.int (0 : Int32)) (.int (1 : Int32)) :: own_CN (aa 2) (.double (FP.i2d (za 2))) .null (.int (0 : Int32)) (.int (1 : Int32)) :: own_CN (aa 1) (.double (FP.i2d (za 1))) .null (.int (0 : Int32)) (.int (1 : Int32)) :: own_CN (aa 0) (.double (FP.i2d (za 0))) .null (.int (0 : Int32)) (.int (1 : Int32)) :: []) ((ta104, .double, "[D", ((.double (FP.i2d (za k125))) :: (.double (FP.i2d (za k126))) :: (.double (FP.i2d (za k127))) :: (.double (0 : UInt64)) :: (.double (0 : UInt64)) :: (.double (0 : UInt64)) :: (List.replicate 58 (.double (0 : UInt64))))) :: (ca105, (.object "com/example/slotwise/slotwise/Simulation$Connection"), "[Lcom/example/slotwise/slotwise/Simulation$Connection;", ((.ref (aa k125)) :: (.ref (aa k126)) :: (.ref (aa k127)) :: .null :: .null :: .null :: (List.replicate 58 .null))) :: (a42, (.object "com/example/slotwise/slotwise/Simulation$Connection"), "[Lcom/example/slotwise/slotwise/Simulation$Connection;", [(.ref (aa 0)), (.ref (aa 1)), (.ref (aa 2)), (.ref (aa 3)), (.ref (aa 4)), (.ref (aa 5))]) :: (a3, .int, "[I", [(.int (za 0)), (.int (za 1)), (.int (za 2)), (.int (za 3)), (.int (za 4)), (.int (za 5))]) :: []) := H129
    refine own_iload K own_d11_254 rfl ?_
    refine own_iconst K own_d11_256 (v := (3 : Int32)) rfl ?_
    refine own_icmple K own_d11_257 (fun q => absurd q (by decide)) (fun _ => ?_)
    refine own_aload K own_d11_260 rfl rfl ?_
    refine own_aload K own_d11_262 rfl rfl ?_
    refine own_iconst K own_d11_264 (v := (3 : Int32)) rfl ?_
    refine own_aaload K own_d11_265 H129 (i := 2) rfl rfl (q := 3) (by decide) (rfl) ?_
    refine own_virtual K own_d11_266 (own_w43 hw) (own_w44 hw) (own_w46 hw) (own_w45 hw) (own_w32 hw) (own_w47 hw) (H129.atO (i := 0) rfl) (a := a99) (argsL := [(.ref (aa 3))]) (rest := []) (own_add3 hw (j := 3) (by rfl) H129 ho (by decide) ltk125 ltk126 ltk127 hp130 hp131) own_pd5 rfl rfl rfl (by decide) (W := 0) (Nat.le_of_eq rfl) (by decide) (by decide) (by decide) (by decide) ?_
    intro v135 h133 q134
    obtain ⟨rfl, k136, k137, k138, k139, pm140, hp142, hp143, hp144, ltk136, ltk137, ltk138, ltk139, H141⟩ := q134
    have PM145 : List.Perm [k136, k137, k138, k139] [3, 2, 1, 0] := ((List.Perm.append_left [] pm140).trans List.perm_middle).trans (List.Perm.cons 3 PM132)
    replace H141 : own_H Z h133 (own_DP a99 (.ref ta104) (.ref ca105) (.int (4 : Int32)) :: own_CN (aa 5) (.double (FP.i2d (za 5))) .null (.int (0 : Int32)) (.int (1 : Int32)) :: own_CN (aa 4) (.double (FP.i2d (za 4))) .null (.int (0 : Int32)) (.int (1 : Int32)) :: own_CN (aa 3) (.double (FP.i2d (za 3))) .null (.int (0 : Int32)) (.int (1 : Int32)) :: own_CN (aa 2) (.double (FP.i2d (za 2))) .null (.int (0 : Int32)) (.int (1 : Int32)) :: own_CN (aa 1) (.double (FP.i2d (za 1))) .null (.int (0 : Int32)) (.int (1 : Int32)) :: own_CN (aa 0) (.double (FP.i2d (za 0))) .null (.int (0 : Int32)) (.int (1 : Int32)) :: []) ((ta104, .double, "[D", ((.double (FP.i2d (za k136))) :: (.double (FP.i2d (za k137))) :: (.double (FP.i2d (za k138))) :: (.double (FP.i2d (za k139))) :: (.double (0 : UInt64)) :: (.double (0 : UInt64)) :: (List.replicate 58 (.double (0 : UInt64))))) :: (ca105, (.object "com/example/slotwise/slotwise/Simulation$Connection"), "[Lcom/example/slotwise/slotwise/Simulation$Connection;", ((.ref (aa k136)) :: (.ref (aa k137)) :: (.ref (aa k138)) :: (.ref (aa k139)) :: .null :: .null :: (List.replicate 58 .null))) :: (a42, (.object "com/example/slotwise/slotwise/Simulation$Connection"), "[Lcom/example/slotwise/slotwise/Simulation$Connection;", [(.ref (aa 0)), (.ref (aa 1)), (.ref (aa 2)), (.ref (aa 3)), (.ref (aa 4)), (.ref (aa 5))]) :: (a3, .int, "[I", [(.int (za 0)), (.int (za 1)), (.int (za 2)), (.int (za 3)), (.int (za 4)), (.int (za 5))]) :: []) := H141
    refine own_iload K own_d11_269 rfl ?_
    refine own_iconst K own_d11_271 (v := (4 : Int32)) rfl ?_
    refine own_icmple K own_d11_272 (fun q => absurd q (by decide)) (fun _ => ?_)
    refine own_aload K own_d11_275 rfl rfl ?_
    refine own_aload K own_d11_277 rfl rfl ?_
    refine own_iconst K own_d11_279 (v := (4 : Int32)) rfl ?_
    refine own_aaload K own_d11_280 H141 (i := 2) rfl rfl (q := 4) (by decide) (rfl) ?_
    refine own_virtual K own_d11_281 (own_w43 hw) (own_w44 hw) (own_w46 hw) (own_w45 hw) (own_w32 hw) (own_w47 hw) (H141.atO (i := 0) rfl) (a := a99) (argsL := [(.ref (aa 4))]) (rest := []) (own_add4 hw (j := 4) (by rfl) H141 ho (by decide) ltk136 ltk137 ltk138 ltk139 hp142 hp143 hp144) own_pd5 rfl rfl rfl (by decide) (W := 0) (Nat.le_of_eq rfl) (by decide) (by decide) (by decide) (by decide) ?_
    intro v148 h146 q147
    obtain ⟨rfl, k149, k150, k151, k152, k153, pm154, hp156, hp157, hp158, hp159, ltk149, ltk150, ltk151, ltk152, ltk153, H155⟩ := q147
    have PM160 : List.Perm [k149, k150, k151, k152, k153] [4, 3, 2, 1, 0] := ((List.Perm.append_left [] pm154).trans List.perm_middle).trans (List.Perm.cons 4 PM145)
    replace H155 : own_H Z h146 (own_DP a99 (.ref ta104) (.ref ca105) (.int (5 : Int32)) :: own_CN (aa 5) (.double (FP.i2d (za 5))) .null (.int (0 : Int32)) (.int (1 : Int32)) :: own_CN (aa 4) (.double (FP.i2d (za 4))) .null (.int (0 : Int32)) (.int (1 : Int32)) :: own_CN (aa 3) (.double (FP.i2d (za 3))) .null (.int (0 : Int32)) (.int (1 : Int32)) :: own_CN (aa 2) (.double (FP.i2d (za 2))) .null (.int (0 : Int32)) (.int (1 : Int32)) :: own_CN (aa 1) (.double (FP.i2d (za 1))) .null (.int (0 : Int32)) (.int (1 : Int32)) :: own_CN (aa 0) (.double (FP.i2d (za 0))) .null (.int (0 : Int32)) (.int (1 : Int32)) :: []) ((ta104, .double, "[D", ((.double (FP.i2d (za k149))) :: (.double (FP.i2d (za k150))) :: (.double (FP.i2d (za k151))) :: (.double (FP.i2d (za k152))) :: (.double (FP.i2d (za k153))) :: (.double (0 : UInt64)) :: (List.replicate 58 (.double (0 : UInt64))))) :: (ca105, (.object "com/example/slotwise/slotwise/Simulation$Connection"), "[Lcom/example/slotwise/slotwise/Simulation$Connection;", ((.ref (aa k149)) :: (.ref (aa k150)) :: (.ref (aa k151)) :: (.ref (aa k152)) :: (.ref (aa k153)) :: .null :: (List.replicate 58 .null))) :: (a42, (.object "com/example/slotwise/slotwise/Simulation$Connection"), "[Lcom/example/slotwise/slotwise/Simulation$Connection;", [(.ref (aa 0)), (.ref (aa 1)), (.ref (aa 2)), (.ref (aa 3)), (.ref (aa 4)), (.ref (aa 5))]) :: (a3, .int, "[I", [(.int (za 0)), (.int (za 1)), (.int (za 2)), (.int (za 3)), (.int (za 4)), (.int (za 5))]) :: []) := H155
    refine own_iload K own_d11_284 rfl ?_
    refine own_iconst K own_d11_286 (v := (5 : Int32)) rfl ?_
    refine own_icmple K own_d11_287 (fun _ => ?_) (fun q => absurd (by decide) q)
    refine own_aload K own_d11_299 rfl rfl ?_
    have q1b : k149 < 5 := by have hm := PM160.mem_iff.mp (List.mem_cons_self (a := k149)); simp only [List.mem_cons, List.not_mem_nil, or_false] at hm; omega
    have RM : ∀ i, i < 5 → (za k149).toInt ≤ (za i).toInt := by intro i hi; have hm : i ∈ [k149, k150, k151, k152, k153] := PM160.mem_iff.mpr (by simp only [List.mem_cons, List.not_mem_nil, or_false]; omega); simp only [List.mem_cons, List.not_mem_nil, or_false] at hm; rcases hm with q' | q' | q' | q' | q' <;> rw [q'] <;> omega
    refine own_virtual K own_d11_301 (own_w55 hw) (own_w56 hw) (own_w58 hw) (own_w57 hw) (own_w32 hw) (own_w59 hw) (H155.atO (i := 0) rfl) (a := a99) (argsL := []) (rest := []) (own_poll5 hw H155 ho ltk149 ltk150 ltk151 ltk152 ltk153 hp156 hp157 hp158 hp159) own_pd6 rfl rfl rfl (by decide) (W := 0) (Nat.le_of_eq rfl) (by decide) (by decide) (by decide) (by decide) ?_
    intro v163 h161 q162
    obtain ⟨rfl, k164, k165, k166, k167, pm168, hp170, hp171, hp172, le173, ltk164, ltk165, ltk166, ltk167, H169⟩ := q162
    have PM174 : List.Perm [k149, k164, k165, k166, k167] [4, 3, 2, 1, 0] := (List.Perm.append_left [] (List.Perm.cons k149 pm168)).trans PM160
    replace H169 : own_H Z h161 (own_DP a99 (.ref ta104) (.ref ca105) (.int (4 : Int32)) :: own_CN (aa 5) (.double (FP.i2d (za 5))) .null (.int (0 : Int32)) (.int (1 : Int32)) :: own_CN (aa 4) (.double (FP.i2d (za 4))) .null (.int (0 : Int32)) (.int (1 : Int32)) :: own_CN (aa 3) (.double (FP.i2d (za 3))) .null (.int (0 : Int32)) (.int (1 : Int32)) :: own_CN (aa 2) (.double (FP.i2d (za 2))) .null (.int (0 : Int32)) (.int (1 : Int32)) :: own_CN (aa 1) (.double (FP.i2d (za 1))) .null (.int (0 : Int32)) (.int (1 : Int32)) :: own_CN (aa 0) (.double (FP.i2d (za 0))) .null (.int (0 : Int32)) (.int (1 : Int32)) :: []) ((ta104, .double, "[D", ((.double (FP.i2d (za k164))) :: (.double (FP.i2d (za k165))) :: (.double (FP.i2d (za k166))) :: (.double (FP.i2d (za k167))) :: (.double (FP.i2d (za k153))) :: (.double (0 : UInt64)) :: (List.replicate 58 (.double (0 : UInt64))))) :: (ca105, (.object "com/example/slotwise/slotwise/Simulation$Connection"), "[Lcom/example/slotwise/slotwise/Simulation$Connection;", ((.ref (aa k164)) :: (.ref (aa k165)) :: (.ref (aa k166)) :: (.ref (aa k167)) :: .null :: .null :: (List.replicate 58 .null))) :: (a42, (.object "com/example/slotwise/slotwise/Simulation$Connection"), "[Lcom/example/slotwise/slotwise/Simulation$Connection;", [(.ref (aa 0)), (.ref (aa 1)), (.ref (aa 2)), (.ref (aa 3)), (.ref (aa 4)), (.ref (aa 5))]) :: (a3, .int, "[I", [(.int (za 0)), (.int (za 1)), (.int (za 2)), (.int (za 3)), (.int (za 4)), (.int (za 5))]) :: []) := H169
    refine own_astore K own_d11_304 rfl (Ls' := #[.val (.long pk), .second, .val (.int mo), .val (.ref a3), .val (.ref a42), .val (.int (1 : Int32)), .val (.int (5 : Int32)), .val (.ref a99), .val (.ref (aa k149)), .unset, .unset, .unset, .unset, .unset, .unset, .unset, .unset, .unset, .unset, .unset, .unset, .unset, .unset, .unset, .unset, .unset, .unset]) rfl ?_
    refine own_iload K own_d11_306 rfl ?_
    refine own_iconst K own_d11_308 (v := (1 : Int32)) rfl ?_
    refine own_icmpgt K own_d11_309 (fun _ => ?_) (fun q => absurd (by decide) q)
    refine own_iload K own_d11_321 rfl ?_
    refine own_iconst K own_d11_323 (v := (2 : Int32)) rfl ?_
    refine own_icmpgt K own_d11_324 (fun _ => ?_) (fun q => absurd (by decide) q)
    refine own_iload K own_d11_336 rfl ?_
    refine own_iconst K own_d11_338 (v := (3 : Int32)) rfl ?_
    refine own_icmpgt K own_d11_339 (fun _ => ?_) (fun q => absurd (by decide) q)
    refine own_iload K own_d11_351 rfl ?_
    refine own_iconst K own_d11_353 (v := (4 : Int32)) rfl ?_
    refine own_icmpgt K own_d11_354 (fun _ => ?_) (fun q => absurd (by decide) q)
    refine own_iload K own_d11_366 rfl ?_
    refine own_iconst K own_d11_368 (v := (5 : Int32)) rfl ?_
    refine own_icmpgt K own_d11_369 (fun q => absurd q (by decide)) (fun _ => ?_)
    refine own_aload K own_d11_372 rfl rfl ?_
    refine own_aload K own_d11_374 rfl rfl ?_
    refine own_iconst K own_d11_376 (v := (5 : Int32)) rfl ?_
    refine own_aaload K own_d11_377 H169 (i := 2) rfl rfl (q := 5) (by decide) (rfl) ?_
    refine own_virtual K own_d11_378 (own_w43 hw) (own_w44 hw) (own_w46 hw) (own_w45 hw) (own_w32 hw) (own_w47 hw) (H169.atO (i := 0) rfl) (a := a99) (argsL := [(.ref (aa 5))]) (rest := []) (own_add4 hw (j := 5) (by rfl) H169 ho (by decide) ltk164 ltk165 ltk166 ltk167 hp170 hp171 hp172) own_pd5 rfl rfl rfl (by decide) (W := 0) (Nat.le_of_eq rfl) (by decide) (by decide) (by decide) (by decide) ?_
    intro v177 h175 q176
    obtain ⟨rfl, k178, k179, k180, k181, k182, pm183, hp185, hp186, hp187, hp188, ltk178, ltk179, ltk180, ltk181, ltk182, H184⟩ := q176
    have PM189 : List.Perm [k149, k178, k179, k180, k181, k182] [5, 4, 3, 2, 1, 0] := ((List.Perm.append_left [k149] pm183).trans List.perm_middle).trans (List.Perm.cons 5 PM174)
    replace H184 : own_H Z h175 (own_DP a99 (.ref ta104) (.ref ca105) (.int (5 : Int32)) :: own_CN (aa 5) (.double (FP.i2d (za 5))) .null (.int (0 : Int32)) (.int (1 : Int32)) :: own_CN (aa 4) (.double (FP.i2d (za 4))) .null (.int (0 : Int32)) (.int (1 : Int32)) :: own_CN (aa 3) (.double (FP.i2d (za 3))) .null (.int (0 : Int32)) (.int (1 : Int32)) :: own_CN (aa 2) (.double (FP.i2d (za 2))) .null (.int (0 : Int32)) (.int (1 : Int32)) :: own_CN (aa 1) (.double (FP.i2d (za 1))) .null (.int (0 : Int32)) (.int (1 : Int32)) :: own_CN (aa 0) (.double (FP.i2d (za 0))) .null (.int (0 : Int32)) (.int (1 : Int32)) :: []) ((ta104, .double, "[D", ((.double (FP.i2d (za k178))) :: (.double (FP.i2d (za k179))) :: (.double (FP.i2d (za k180))) :: (.double (FP.i2d (za k181))) :: (.double (FP.i2d (za k182))) :: (.double (0 : UInt64)) :: (List.replicate 58 (.double (0 : UInt64))))) :: (ca105, (.object "com/example/slotwise/slotwise/Simulation$Connection"), "[Lcom/example/slotwise/slotwise/Simulation$Connection;", ((.ref (aa k178)) :: (.ref (aa k179)) :: (.ref (aa k180)) :: (.ref (aa k181)) :: (.ref (aa k182)) :: .null :: (List.replicate 58 .null))) :: (a42, (.object "com/example/slotwise/slotwise/Simulation$Connection"), "[Lcom/example/slotwise/slotwise/Simulation$Connection;", [(.ref (aa 0)), (.ref (aa 1)), (.ref (aa 2)), (.ref (aa 3)), (.ref (aa 4)), (.ref (aa 5))]) :: (a3, .int, "[I", [(.int (za 0)), (.int (za 1)), (.int (za 2)), (.int (za 3)), (.int (za 4)), (.int (za 5))]) :: []) := H184
    refine own_aload K own_d11_381 rfl rfl ?_
    refine own_virtual K own_d11_383 (own_w55 hw) (own_w56 hw) (own_w58 hw) (own_w57 hw) (own_w32 hw) (own_w59 hw) (H184.atO (i := 0) rfl) (a := a99) (argsL := []) (rest := []) (own_poll5 hw H184 ho ltk178 ltk179 ltk180 ltk181 ltk182 hp185 hp186 hp187 hp188) own_pd6 rfl rfl rfl (by decide) (W := 0) (Nat.le_of_eq rfl) (by decide) (by decide) (by decide) (by decide) ?_
    intro v192 h190 q191
    obtain ⟨rfl, k193, k194, k195, k196, pm197, hp199, hp200, hp201, le202, ltk193, ltk194, ltk195, ltk196, H198⟩ := q191
    have PM203 : List.Perm [k149, k178, k193, k194, k195, k196] [5, 4, 3, 2, 1, 0] := (List.Perm.append_left [k149] (List.Perm.cons k178 pm197)).trans PM189
    replace H198 : own_H Z h190 (own_DP a99 (.ref ta104) (.ref ca105) (.int (4 : Int32)) :: own_CN (aa 5) (.double (FP.i2d (za 5))) .null (.int (0 : Int32)) (.int (1 : Int32)) :: own_CN (aa 4) (.double (FP.i2d (za 4))) .null (.int (0 : Int32)) (.int (1 : Int32)) :: own_CN (aa 3) (.double (FP.i2d (za 3))) .null (.int (0 : Int32)) (.int (1 : Int32)) :: own_CN (aa 2) (.double (FP.i2d (za 2))) .null (.int (0 : Int32)) (.int (1 : Int32)) :: own_CN (aa 1) (.double (FP.i2d (za 1))) .null (.int (0 : Int32)) (.int (1 : Int32)) :: own_CN (aa 0) (.double (FP.i2d (za 0))) .null (.int (0 : Int32)) (.int (1 : Int32)) :: []) ((ta104, .double, "[D", ((.double (FP.i2d (za k193))) :: (.double (FP.i2d (za k194))) :: (.double (FP.i2d (za k195))) :: (.double (FP.i2d (za k196))) :: (.double (FP.i2d (za k182))) :: (.double (0 : UInt64)) :: (List.replicate 58 (.double (0 : UInt64))))) :: (ca105, (.object "com/example/slotwise/slotwise/Simulation$Connection"), "[Lcom/example/slotwise/slotwise/Simulation$Connection;", ((.ref (aa k193)) :: (.ref (aa k194)) :: (.ref (aa k195)) :: (.ref (aa k196)) :: .null :: .null :: (List.replicate 58 .null))) :: (a42, (.object "com/example/slotwise/slotwise/Simulation$Connection"), "[Lcom/example/slotwise/slotwise/Simulation$Connection;", [(.ref (aa 0)), (.ref (aa 1)), (.ref (aa 2)), (.ref (aa 3)), (.ref (aa 4)), (.ref (aa 5))]) :: (a3, .int, "[I", [(.int (za 0)), (.int (za 1)), (.int (za 2)), (.int (za 3)), (.int (za 4)), (.int (za 5))]) :: []) := H198
    refine own_astore K own_d11_386 rfl (Ls' := #[.val (.long pk), .second, .val (.int mo), .val (.ref a3), .val (.ref a42), .val (.int (1 : Int32)), .val (.int (5 : Int32)), .val (.ref a99), .val (.ref (aa k149)), .val (.ref (aa k178)), .unset, .unset, .unset, .unset, .unset, .unset, .unset, .unset, .unset, .unset, .unset, .unset, .unset, .unset, .unset, .unset, .unset]) rfl ?_
    refine own_aload K own_d11_388 rfl rfl ?_
    refine own_virtual K own_d11_390 (own_w55 hw) (own_w56 hw) (own_w58 hw) (own_w57 hw) (own_w32 hw) (own_w59 hw) (H198.atO (i := 0) rfl) (a := a99) (argsL := []) (rest := []) (own_poll4 hw H198 ho ltk193 ltk194 ltk195 ltk196 hp199 hp200 hp201) own_pd6 rfl rfl rfl (by decide) (W := 0) (Nat.le_of_eq rfl) (by decide) (by decide) (by decide) (by decide) ?_
    intro v206 h204 q205
    obtain ⟨rfl, k207, k208, k209, pm210, hp212, hp213, le214, ltk207, ltk208, ltk209, H211⟩ := q205
    have PM215 : List.Perm [k149, k178, k193, k207, k208, k209] [5, 4, 3, 2, 1, 0] := (List.Perm.append_left [k149, k178] (List.Perm.cons k193 pm210)).trans PM203
    replace H211 : own_H Z h204 (own_DP a99 (.ref ta104) (.ref ca105) (.int (3 : Int32)) :: own_CN (aa 5) (.double (FP.i2d (za 5))) .null (.int (0 : Int32)) (.int (1 : Int32)) :: own_CN (aa 4) (.double (FP.i2d (za 4))) .null (.int (0 : Int32)) (.int (1 : Int32)) :: own_CN (aa 3) (.double (FP.i2d (za 3))) .null (.int (0 : Int32)) (.int (1 : Int32)) :: own_CN (aa 2) (.double (FP.i2d (za 2))) .null (.int (0 : Int32)) (.int (1 : Int32)) :: own_CN (aa 1) (.double (FP.i2d (za 1))) .null (.int (0 : Int32)) (.int (1 : Int32)) :: own_CN (aa 0) (.double (FP.i2d (za 0))) .null (.int (0 : Int32)) (.int (1 : Int32)) :: []) ((ta104, .double, "[D", ((.double (FP.i2d (za k207))) :: (.double (FP.i2d (za k208))) :: (.double (FP.i2d (za k209))) :: (.double (FP.i2d (za k196))) :: (.double (FP.i2d (za k182))) :: (.double (0 : UInt64)) :: (List.replicate 58 (.double (0 : UInt64))))) :: (ca105, (.object "com/example/slotwise/slotwise/Simulation$Connection"), "[Lcom/example/slotwise/slotwise/Simulation$Connection;", ((.ref (aa k207)) :: (.ref (aa k208)) :: (.ref (aa k209)) :: .null :: .null :: .null :: (List.replicate 58 .null))) :: (a42, (.object "com/example/slotwise/slotwise/Simulation$Connection"), "[Lcom/example/slotwise/slotwise/Simulation$Connection;", [(.ref (aa 0)), (.ref (aa 1)), (.ref (aa 2)), (.ref (aa 3)), (.ref (aa 4)), (.ref (aa 5))]) :: (a3, .int, "[I", [(.int (za 0)), (.int (za 1)), (.int (za 2)), (.int (za 3)), (.int (za 4)), (.int (za 5))]) :: []) := H211
    refine own_astore K own_d11_393 rfl (Ls' := #[.val (.long pk), .second, .val (.int mo), .val (.ref a3), .val (.ref a42), .val (.int (1 : Int32)), .val (.int (5 : Int32)), .val (.ref a99), .val (.ref (aa k149)), .val (.ref (aa k178)), .val (.ref (aa k193)), .unset, .unset, .unset, .unset, .unset, .unset, .unset, .unset, .unset, .unset, .unset, .unset, .unset, .unset, .unset, .unset]) rfl ?_
    refine own_aload K own_d11_395 rfl rfl ?_
    refine own_virtual K own_d11_397 (own_w55 hw) (own_w56 hw) (own_w58 hw) (own_w57 hw) (own_w32 hw) (own_w59 hw) (H211.atO (i := 0) rfl) (a := a99) (argsL := []) (rest := []) (own_poll3 hw H211 ho ltk207 ltk208 ltk209 hp212 hp213) own_pd6 rfl rfl rfl (by decide) (W := 0) (Nat.le_of_eq rfl) (by decide) (by decide) (by decide) (by decide) ?_
    intro v218 h216 q217
    obtain ⟨rfl, k219, k220, pm221, hp223, le224, ltk219, ltk220, H222⟩ := q217
    have PM225 : List.Perm [k149, k178, k193, k207, k219, k220] [5, 4, 3, 2, 1, 0] := (List.Perm.append_left [k149, k178, k193] (List.Perm.cons k207 pm221)).trans PM215
    replace H222 : own_H Z h216 (own_DP a99 (.ref ta104) (.ref ca105) (.int (2 : Int32)) :: own_CN (aa 5) (.double (FP.i2d (za 5))) .null (.int (0 : Int32)) (.int (1 : Int32)) :: own_CN (aa 4) (.double (FP.i2d (za 4))) .null (.int (0 : Int32)) (.int (1 : Int32)) :: own_CN (aa 3) (.double (FP.i2d (za 3))) .null (.int (0 : Int32)) (.int (1 : Int32)) :: own_CN (aa 2) (.double (FP.i2d (za 2))) .null (.int (0 : Int32)) (.int (1 : Int32)) :: own_CN (aa 1) (.double (FP.i2d (za 1))) .null (.int (0 : Int32)) (.int (1 : Int32)) :: own_CN (aa 0) (.double (FP.i2d (za 0))) .null (.int (0 : Int32)) (.int (1 : Int32)) :: []) ((ta104, .double, "[D", ((.double (FP.i2d (za k219))) :: (.double (FP.i2d (za k220))) :: (.double (FP.i2d (za k209))) :: (.double (FP.i2d (za k196))) :: (.double (FP.i2d (za k182))) :: (.double (0 : UInt64)) :: (List.replicate 58 (.double (0 : UInt64))))) :: (ca105, (.object "com/example/slotwise/slotwise/Simulation$Connection"), "[Lcom/example/slotwise/slotwise/Simulation$Connection;", ((.ref (aa k219)) :: (.ref (aa k220)) :: .null :: .null :: .null :: .null :: (List.replicate 58 .null))) :: (a42, (.object "com/example/slotwise/slotwise/Simulation$Connection"), "[Lcom/example/slotwise/slotwise/Simulation$Connection;", [(.ref (aa 0)), (.ref (aa 1)), (.ref (aa 2)), (.ref (aa 3)), (.ref (aa 4)), (.ref (aa 5))]) :: (a3, .int, "[I", [(.int (za 0)), (.int (za 1)), (.int (za 2)), (.int (za 3)), (.int (za 4)), (.int (za 5))]) :: []) := H222
    refine own_astore K own_d11_400 rfl (Ls' := #[.val (.long pk), .second, .val (.int mo), .val (.ref a3), .val (.ref a42), .val (.int (1 : Int32)), .val (.int (5 : Int32)), .val (.ref a99), .val (.ref (aa k149)), .val (.ref (aa k178)), .val (.ref (aa k193)), .val (.ref (aa k207)), .unset, .unset, .unset, .unset, .unset, .unset, .unset, .unset, .unset, .unset, .unset, .unset, .unset, .unset, .unset]) rfl ?_
    refine own_aload K own_d11_402 rfl rfl ?_
    refine own_virtual K own_d11_404 (own_w55 hw) (own_w56 hw) (own_w58 hw) (own_w57 hw) (own_w32 hw) (own_w59 hw) (H222.atO (i := 0) rfl) (a := a99) (argsL := []) (rest := []) (own_poll2 hw H222 ho ltk219 ltk220 hp223) own_pd6 rfl rfl rfl (by decide) (W := 0) (Nat.le_of_eq rfl) (by decide) (by decide) (by decide) (by decide) ?_
    intro v228 h226 q227
    obtain ⟨rfl, k229, pm230, le232, ltk229, H231⟩ := q227
    have PM233 : List.Perm [k149, k178, k193, k207, k219, k229] [5, 4, 3, 2, 1, 0] := (List.Perm.append_left [k149, k178, k193, k207] (List.Perm.cons k219 pm230)).trans PM225
    replace H231 : own_H Z h226 (own_DP a99 (.ref ta104) (.ref ca105) (.int (1 : Int32)) :: own_CN (aa 5) (.double (FP.i2d (za 5))) .null (.int (0 : Int32)) (.int (1 : Int32)) :: own_CN (aa 4) (.double (FP.i2d (za 4))) .null (.int (0 : Int32)) (.int (1 : Int32)) :: own_CN (aa 3) (.double (FP.i2d (za 3))) .null (.int (0 : Int32)) (.int (1 : Int32)) :: own_CN (aa 2) (.double (FP.i2d (za 2))) .null (.int (0 : Int32)) (.int (1 : Int32)) :: own_CN (aa 1) (.double (FP.i2d (za 1))) .null (.int (0 : Int32)) (.int (1 : Int32)) :: own_CN (aa 0) (.double (FP.i2d (za 0))) .null (.int (0 : Int32)) (.int (1 : Int32)) :: []) ((ta104, .double, "[D", ((.double (FP.i2d (za k229))) :: (.double (FP.i2d (za k220))) :: (.double (FP.i2d (za k209))) :: (.double (FP.i2d (za k196))) :: (.double (FP.i2d (za k182))) :: (.double (0 : UInt64)) :: (List.replicate 58 (.double (0 : UInt64))))) :: (ca105, (.object "com/example/slotwise/slotwise/Simulation$Connection"), "[Lcom/example/slotwise/slotwise/Simulation$Connection;", ((.ref (aa k229)) :: .null :: .null :: .null :: .null :: .null :: (List.replicate 58 .null))) :: (a42, (.object "com/example/slotwise/slotwise/Simulation$Connection"), "[Lcom/example/slotwise/slotwise/Simulation$Connection;", [(.ref (aa 0)), (.ref (aa 1)), (.ref (aa 2)), (.ref (aa 3)), (.ref (aa 4)), (.ref (aa 5))]) :: (a3, .int, "[I", [(.int (za 0)), (.int (za 1)), (.int (za 2)), (.int (za 3)), (.int (za 4)), (.int (za 5))]) :: []) := H231
    refine own_astore K own_d11_407 rfl (Ls' := #[.val (.long pk), .second, .val (.int mo), .val (.ref a3), .val (.ref a42), .val (.int (1 : Int32)), .val (.int (5 : Int32)), .val (.ref a99), .val (.ref (aa k149)), .val (.ref (aa k178)), .val (.ref (aa k193)), .val (.ref (aa k207)), .val (.ref (aa k219)), .unset, .unset, .unset, .unset, .unset, .unset, .unset, .unset, .unset, .unset, .unset, .unset, .unset, .unset]) rfl ?_
    refine own_aload K own_d11_409 rfl rfl ?_
    refine own_virtual K own_d11_411 (own_w55 hw) (own_w56 hw) (own_w58 hw) (own_w57 hw) (own_w32 hw) (own_w59 hw) (H231.atO (i := 0) rfl) (a := a99) (argsL := []) (rest := []) (own_poll1 hw H231 ho ltk229 ) own_pd6 rfl rfl rfl (by decide) (W := 0) (Nat.le_of_eq rfl) (by decide) (by decide) (by decide) (by decide) ?_
    intro v236 h234 q235
    obtain ⟨rfl, H238⟩ := q235
    have PM240 : List.Perm [k149, k178, k193, k207, k219, k229] [5, 4, 3, 2, 1, 0] := (List.Perm.append_left [k149, k178, k193, k207, k219] (List.Perm.cons k229 List.Perm.nil)).trans PM233
    replace H238 : own_H Z h234 (own_DP a99 (.ref ta104) (.ref ca105) (.int (0 : Int32)) :: own_CN (aa 5) (.double (FP.i2d (za 5))) .null (.int (0 : Int32)) (.int (1 : Int32)) :: own_CN (aa 4) (.double (FP.i2d (za 4))) .null (.int (0 : Int32)) (.int (1 : Int32)) :: own_CN (aa 3) (.double (FP.i2d (za 3))) .null (.int (0 : Int32)) (.int (1 : Int32)) :: own_CN (aa 2) (.double (FP.i2d (za 2))) .null (.int (0 : Int32)) (.int (1 : Int32)) :: own_CN (aa 1) (.double (FP.i2d (za 1))) .null (.int (0 : Int32)) (.int (1 : Int32)) :: own_CN (aa 0) (.double (FP.i2d (za 0))) .null (.int (0 : Int32)) (.int (1 : Int32)) :: []) ((ta104, .double, "[D", ((.double (FP.i2d (za k229))) :: (.double (FP.i2d (za k220))) :: (.double (FP.i2d (za k209))) :: (.double (FP.i2d (za k196))) :: (.double (FP.i2d (za k182))) :: (.double (0 : UInt64)) :: (List.replicate 58 (.double (0 : UInt64))))) :: (ca105, (.object "com/example/slotwise/slotwise/Simulation$Connection"), "[Lcom/example/slotwise/slotwise/Simulation$Connection;", (.null :: .null :: .null :: .null :: .null :: .null :: (List.replicate 58 .null))) :: (a42, (.object "com/example/slotwise/slotwise/Simulation$Connection"), "[Lcom/example/slotwise/slotwise/Simulation$Connection;", [(.ref (aa 0)), (.ref (aa 1)), (.ref (aa 2)), (.ref (aa 3)), (.ref (aa 4)), (.ref (aa 5))]) :: (a3, .int, "[I", [(.int (za 0)), (.int (za 1)), (.int (za 2)), (.int (za 3)), (.int (za 4)), (.int (za 5))]) :: []) := H238
    refine own_astore K own_d11_414 rfl (Ls' := #[.val (.long pk), .second, .val (.int mo), .val (.ref a3), .val (.ref a42), .val (.int (1 : Int32)), .val (.int (5 : Int32)), .val (.ref a99), .val (.ref (aa k149)), .val (.ref (aa k178)), .val (.ref (aa k193)), .val (.ref (aa k207)), .val (.ref (aa k219)), .val (.ref (aa k229)), .unset, .unset, .unset, .unset, .unset, .unset, .unset, .unset, .unset, .unset, .unset, .unset, .unset]) rfl ?_
    refine own_aload K own_d11_416 rfl rfl ?_
    refine own_virtual K own_d11_418 (own_w60 hw) (own_w61 hw) (own_w63 hw) (own_w62 hw) (own_w32 hw) (own_w64 hw) (H238.atO (i := 0) rfl) (a := a99) (argsL := []) (rest := []) (own_emp hw H238) own_pd7 rfl rfl rfl (by decide) (W := 0) (Nat.le_of_eq rfl) (by decide) (by decide) (by decide) (by decide) ?_
    intro v243 h241 q242
    obtain ⟨rfl, rfl⟩ := q242
    refine own_istore K own_d11_421 (Ls' := #[.val (.long pk), .second, .val (.int mo), .val (.ref a3), .val (.ref a42), .val (.int (1 : Int32)), .val (.int (5 : Int32)), .val (.ref a99), .val (.ref (aa k149)), .val (.ref (aa k178)), .val (.ref (aa k193)), .val (.ref (aa k207)), .val (.ref (aa k219)), .val (.ref (aa k229)), .val (.int (1 : Int32)), .unset, .unset, .unset, .unset, .unset, .unset, .unset, .unset, .unset, .unset, .unset, .unset]) rfl ?_
    refine own_aload K own_d11_423 rfl rfl ?_
    refine own_aload K own_d11_425 rfl rfl ?_
    have H244 := H238.frontA 2 rfl
    replace H244 : own_H Z h234 (own_DP a99 (.ref ta104) (.ref ca105) (.int (0 : Int32)) :: own_CN (aa 5) (.double (FP.i2d (za 5))) .null (.int (0 : Int32)) (.int (1 : Int32)) :: own_CN (aa 4) (.double (FP.i2d (za 4))) .null (.int (0 : Int32)) (.int (1 : Int32)) :: own_CN (aa 3) (.double (FP.i2d (za 3))) .null (.int (0 : Int32)) (.int (1 : Int32)) :: own_CN (aa 2) (.double (FP.i2d (za 2))) .null (.int (0 : Int32)) (.int (1 : Int32)) :: own_CN (aa 1) (.double (FP.i2d (za 1))) .null (.int (0 : Int32)) (.int (1 : Int32)) :: own_CN (aa 0) (.double (FP.i2d (za 0))) .null (.int (0 : Int32)) (.int (1 : Int32)) :: []) ((a42, (.object "com/example/slotwise/slotwise/Simulation$Connection"), "[Lcom/example/slotwise/slotwise/Simulation$Connection;", [(.ref (aa 0)), (.ref (aa 1)), (.ref (aa 2)), (.ref (aa 3)), (.ref (aa 4)), (.ref (aa 5))]) :: (ta104, .double, "[D", ((.double (FP.i2d (za k229))) :: (.double (FP.i2d (za k220))) :: (.double (FP.i2d (za k209))) :: (.double (FP.i2d (za k196))) :: (.double (FP.i2d (za k182))) :: (.double (0 : UInt64)) :: (List.replicate 58 (.double (0 : UInt64))))) :: (ca105, (.object "com/example/slotwise/slotwise/Simulation$Connection"), "[Lcom/example/slotwise/slotwise/Simulation$Connection;", (.null :: .null :: .null :: .null :: .null :: .null :: (List.replicate 58 .null))) :: (a3, .int, "[I", [(.int (za 0)), (.int (za 1)), (.int (za 2)), (.int (za 3)), (.int (za 4)), (.int (za 5))]) :: []) := H244
    refine own_static K own_d11_427 (own_w65 hw) (own_w66 hw) (own_w3 hw) (own_w67 hw) (argsL := [(.ref (aa k149)), (.ref a42)]) (rest := []) (own_idx hw H244 hne ltk149) own_pd8 rfl rfl rfl (by decide) (W := 0) (Nat.le_of_eq rfl) (by decide) (by decide) (by decide) (by decide) ?_
    intro v247 h245 q246
    obtain ⟨rfl, rfl⟩ := q246
    refine own_istore K own_d11_430 (Ls' := #[.val (.long pk), .second, .val (.int mo), .val (.ref a3), .val (.ref a42), .val (.int (1 : Int32)), .val (.int (5 : Int32)), .val (.ref a99), .val (.ref (aa k149)), .val (.ref (aa k178)), .val (.ref (aa k193)), .val (.ref (aa k207)), .val (.ref (aa k219)), .val (.ref (aa k229)), .val (.int (1 : Int32)), .val (.int (Int32.ofNat k149)), .unset, .unset, .unset, .unset, .unset, .unset, .unset, .unset, .unset, .unset, .unset]) rfl ?_
    refine own_aload K own_d11_432 rfl rfl ?_
    refine own_aload K own_d11_434 rfl rfl ?_
    refine own_static K own_d11_436 (own_w65 hw) (own_w66 hw) (own_w3 hw) (own_w67 hw) (argsL := [(.ref (aa k178)), (.ref a42)]) (rest := []) (own_idx hw H244 hne ltk178) own_pd8 rfl rfl rfl (by decide) (W := 0) (Nat.le_of_eq rfl) (by decide) (by decide) (by decide) (by decide) ?_
    intro v250 h248 q249
    obtain ⟨rfl, rfl⟩ := q249
    refine own_istore K own_d11_439 (Ls' := #[.val (.long pk), .second, .val (.int mo), .val (.ref a3), .val (.ref a42), .val (.int (1 : Int32)), .val (.int (5 : Int32)), .val (.ref a99), .val (.ref (aa k149)), .val (.ref (aa k178)), .val (.ref (aa k193)), .val (.ref (aa k207)), .val (.ref (aa k219)), .val (.ref (aa k229)), .val (.int (1 : Int32)), .val (.int (Int32.ofNat k149)), .val (.int (Int32.ofNat k178)), .unset, .unset, .unset, .unset, .unset, .unset, .unset, .unset, .unset, .unset]) rfl ?_
    refine own_aload K own_d11_441 rfl rfl ?_
    refine own_aload K own_d11_443 rfl rfl ?_
    refine own_static K own_d11_445 (own_w65 hw) (own_w66 hw) (own_w3 hw) (own_w67 hw) (argsL := [(.ref (aa k193)), (.ref a42)]) (rest := []) (own_idx hw H244 hne ltk193) own_pd8 rfl rfl rfl (by decide) (W := 0) (Nat.le_of_eq rfl) (by decide) (by decide) (by decide) (by decide) ?_
    intro v253 h251 q252
    obtain ⟨rfl, rfl⟩ := q252
    refine own_istore K own_d11_448 (Ls' := #[.val (.long pk), .second, .val (.int mo), .val (.ref a3), .val (.ref a42), .val (.int (1 : Int32)), .val (.int (5 : Int32)), .val (.ref a99), .val (.ref (aa k149)), .val (.ref (aa k178)), .val (.ref (aa k193)), .val (.ref (aa k207)), .val (.ref (aa k219)), .val (.ref (aa k229)), .val (.int (1 : Int32)), .val (.int (Int32.ofNat k149)), .val (.int (Int32.ofNat k178)), .val (.int (Int32.ofNat k193)), .unset, .unset, .unset, .unset, .unset, .unset, .unset, .unset, .unset]) rfl ?_
    refine own_aload K own_d11_450 rfl rfl ?_
    refine own_aload K own_d11_452 rfl rfl ?_
    refine own_static K own_d11_454 (own_w65 hw) (own_w66 hw) (own_w3 hw) (own_w67 hw) (argsL := [(.ref (aa k207)), (.ref a42)]) (rest := []) (own_idx hw H244 hne ltk207) own_pd8 rfl rfl rfl (by decide) (W := 0) (Nat.le_of_eq rfl) (by decide) (by decide) (by decide) (by decide) ?_
    intro v256 h254 q255
    obtain ⟨rfl, rfl⟩ := q255
    refine own_istore K own_d11_457 (Ls' := #[.val (.long pk), .second, .val (.int mo), .val (.ref a3), .val (.ref a42), .val (.int (1 : Int32)), .val (.int (5 : Int32)), .val (.ref a99), .val (.ref (aa k149)), .val (.ref (aa k178)), .val (.ref (aa k193)), .val (.ref (aa k207)), .val (.ref (aa k219)), .val (.ref (aa k229)), .val (.int (1 : Int32)), .val (.int (Int32.ofNat k149)), .val (.int (Int32.ofNat k178)), .val (.int (Int32.ofNat k193)), .val (.int (Int32.ofNat k207)), .unset, .unset, .unset, .unset, .unset, .unset, .unset, .unset]) rfl ?_
    refine own_aload K own_d11_459 rfl rfl ?_
    refine own_aload K own_d11_461 rfl rfl ?_
    refine own_static K own_d11_463 (own_w65 hw) (own_w66 hw) (own_w3 hw) (own_w67 hw) (argsL := [(.ref (aa k219)), (.ref a42)]) (rest := []) (own_idx hw H244 hne ltk219) own_pd8 rfl rfl rfl (by decide) (W := 0) (Nat.le_of_eq rfl) (by decide) (by decide) (by decide) (by decide) ?_
    intro v259 h257 q258
    obtain ⟨rfl, rfl⟩ := q258
    refine own_istore K own_d11_466 (Ls' := #[.val (.long pk), .second, .val (.int mo), .val (.ref a3), .val (.ref a42), .val (.int (1 : Int32)), .val (.int (5 : Int32)), .val (.ref a99), .val (.ref (aa k149)), .val (.ref (aa k178)), .val (.ref (aa k193)), .val (.ref (aa k207)), .val (.ref (aa k219)), .val (.ref (aa k229)), .val (.int (1 : Int32)), .val (.int (Int32.ofNat k149)), .val (.int (Int32.ofNat k178)), .val (.int (Int32.ofNat k193)), .val (.int (Int32.ofNat k207)), .val (.int (Int32.ofNat k219)), .unset, .unset, .unset, .unset, .unset, .unset, .unset]) rfl ?_
    refine own_aload K own_d11_468 rfl rfl ?_
    refine own_aload K own_d11_470 rfl rfl ?_
    refine own_static K own_d11_472 (own_w65 hw) (own_w66 hw) (own_w3 hw) (own_w67 hw) (argsL := [(.ref (aa k229)), (.ref a42)]) (rest := []) (own_idx hw H244 hne ltk229) own_pd8 rfl rfl rfl (by decide) (W := 0) (Nat.le_of_eq rfl) (by decide) (by decide) (by decide) (by decide) ?_
    intro v262 h260 q261
    obtain ⟨rfl, rfl⟩ := q261
    refine own_istore K own_d11_475 (Ls' := #[.val (.long pk), .second, .val (.int mo), .val (.ref a3), .val (.ref a42), .val (.int (1 : Int32)), .val (.int (5 : Int32)), .val (.ref a99), .val (.ref (aa k149)), .val (.ref (aa k178)), .val (.ref (aa k193)), .val (.ref (aa k207)), .val (.ref (aa k219)), .val (.ref (aa k229)), .val (.int (1 : Int32)), .val (.int (Int32.ofNat k149)), .val (.int (Int32.ofNat k178)), .val (.int (Int32.ofNat k193)), .val (.int (Int32.ofNat k207)), .val (.int (Int32.ofNat k219)), .val (.int (Int32.ofNat k229)), .unset, .unset, .unset, .unset, .unset, .unset]) rfl ?_
    refine own_iload K own_d11_477 rfl ?_
    refine own_iflt K own_d11_479 (fun q => absurd q (by rw [own_oN ltk149]; omega)) (fun _ => ?_)
    refine own_iload K own_d11_482 rfl ?_
    refine own_iflt K own_d11_484 (fun q => absurd q (by rw [own_oN ltk178]; omega)) (fun _ => ?_)
    refine own_iload K own_d11_487 rfl ?_
    refine own_iflt K own_d11_489 (fun q => absurd q (by rw [own_oN ltk193]; omega)) (fun _ => ?_)
    refine own_iload K own_d11_492 rfl ?_
    refine own_iflt K own_d11_494 (fun q => absurd q (by rw [own_oN ltk207]; omega)) (fun _ => ?_)
    refine own_iload K own_d11_497 rfl ?_
    refine own_iflt K own_d11_499 (fun q => absurd q (by rw [own_oN ltk219]; omega)) (fun _ => ?_)
    refine own_iload K own_d11_502 rfl ?_
    refine own_ifge K own_d11_504 (fun _ => ?_) (fun q => absurd (by rw [own_oN ltk229]; omega) q)
    refine own_iconst K own_d11_509 (v := (1 : Int32)) rfl ?_
    refine own_iload K own_d11_510 rfl ?_
    refine own_ishl K own_d11_512 ?_
    refine own_iconst K own_d11_513 (v := (1 : Int32)) rfl ?_
    refine own_iload K own_d11_514 rfl ?_
    refine own_ishl K own_d11_516 ?_
    refine own_ior K own_d11_517 ?_
    refine own_iconst K own_d11_518 (v := (1 : Int32)) rfl ?_
    refine own_iload K own_d11_519 rfl ?_
    refine own_ishl K own_d11_521 ?_
    refine own_ior K own_d11_522 ?_
    refine own_iconst K own_d11_523 (v := (1 : Int32)) rfl ?_
    refine own_iload K own_d11_524 rfl ?_
    refine own_ishl K own_d11_526 ?_
    refine own_ior K own_d11_527 ?_
    refine own_iconst K own_d11_528 (v := (1 : Int32)) rfl ?_
    refine own_iload K own_d11_529 rfl ?_
    refine own_ishl K own_d11_531 ?_
    refine own_ior K own_d11_532 ?_
    refine own_iconst K own_d11_533 (v := (1 : Int32)) rfl ?_
    refine own_iload K own_d11_534 rfl ?_
    refine own_ishl K own_d11_536 ?_
    refine own_ior K own_d11_537 ?_
    refine own_bipush K own_d11_538 (v := (63 : Int32)) rfl ?_
    refine own_icmpeq K own_d11_540 (fun _ => ?_) (fun q => absurd (own_mask PM240) q)
    refine own_iload K own_d11_545 rfl ?_
    refine own_iload K own_d11_547 rfl ?_
    refine own_icmplt K own_d11_549 (fun _ => ?_) (fun q => absurd (by rw [own_oN ltk149]; show (k149 : Int) < 5; omega) q)
    refine own_aloadN K own_d11_554 rfl rfl ?_
    refine own_iload K own_d11_555 rfl ?_
    refine own_iaload K own_d11_557 H244 (i := 3) rfl (q := k149) (own_oN ltk149) (own_vz ltk149) ?_
    refine own_istore K own_d11_558 (Ls' := #[.val (.long pk), .second, .val (.int mo), .val (.ref a3), .val (.ref a42), .val (.int (1 : Int32)), .val (.int (5 : Int32)), .val (.ref a99), .val (.ref (aa k149)), .val (.ref (aa k178)), .val (.ref (aa k193)), .val (.ref (aa k207)), .val (.ref (aa k219)), .val (.ref (aa k229)), .val (.int (1 : Int32)), .val (.int (Int32.ofNat k149)), .val (.int (Int32.ofNat k178)), .val (.int (Int32.ofNat k193)), .val (.int (Int32.ofNat k207)), .val (.int (Int32.ofNat k219)), .val (.int (Int32.ofNat k229)), .val (.int (za k149)), .unset, .unset, .unset, .unset, .unset]) rfl ?_
    refine own_aloadN K own_d11_560 rfl rfl ?_
    refine own_iload K own_d11_561 rfl ?_
    refine own_iaload K own_d11_563 H244 (i := 3) rfl (q := k178) (own_oN ltk178) (own_vz ltk178) ?_
    refine own_istore K own_d11_564 (Ls' := #[.val (.long pk), .second, .val (.int mo), .val (.ref a3), .val (.ref a42), .val (.int (1 : Int32)), .val (.int (5 : Int32)), .val (.ref a99), .val (.ref (aa k149)), .val (.ref (aa k178)), .val (.ref (aa k193)), .val (.ref (aa k207)), .val (.ref (aa k219)), .val (.ref (aa k229)), .val (.int (1 : Int32)), .val (.int (Int32.ofNat k149)), .val (.int (Int32.ofNat k178)), .val (.int (Int32.ofNat k193)), .val (.int (Int32.ofNat k207)), .val (.int (Int32.ofNat k219)), .val (.int (Int32.ofNat k229)), .val (.int (za k149)), .val (.int (za k178)), .unset, .unset, .unset, .unset]) rfl ?_
    refine own_aloadN K own_d11_566 rfl rfl ?_
    refine own_iload K own_d11_567 rfl ?_
    refine own_iaload K own_d11_569 H244 (i := 3) rfl (q := k193) (own_oN ltk193) (own_vz ltk193) ?_
    refine own_istore K own_d11_570 (Ls' := #[.val (.long pk), .second, .val (.int mo), .val (.ref a3), .val (.ref a42), .val (.int (1 : Int32)), .val (.int (5 : Int32)), .val (.ref a99), .val (.ref (aa k149)), .val (.ref (aa k178)), .val (.ref (aa k193)), .val (.ref (aa k207)), .val (.ref (aa k219)), .val (.ref (aa k229)), .val (.int (1 : Int32)), .val (.int (Int32.ofNat k149)), .val (.int (Int32.ofNat k178)), .val (.int (Int32.ofNat k193)), .val (.int (Int32.ofNat k207)), .val (.int (Int32.ofNat k219)), .val (.int (Int32.ofNat k229)), .val (.int (za k149)), .val (.int (za k178)), .val (.int (za k193)), .unset, .unset, .unset]) rfl ?_
    refine own_aloadN K own_d11_572 rfl rfl ?_
    refine own_iload K own_d11_573 rfl ?_
    refine own_iaload K own_d11_575 H244 (i := 3) rfl (q := k207) (own_oN ltk207) (own_vz ltk207) ?_
    refine own_istore K own_d11_576 (Ls' := #[.val (.long pk), .second, .val (.int mo), .val (.ref a3), .val (.ref a42), .val (.int (1 : Int32)), .val (.int (5 : Int32)), .val (.ref a99), .val (.ref (aa k149)), .val (.ref (aa k178)), .val (.ref (aa k193)), .val (.ref (aa k207)), .val (.ref (aa k219)), .val (.ref (aa k229)), .val (.int (1 : Int32)), .val (.int (Int32.ofNat k149)), .val (.int (Int32.ofNat k178)), .val (.int (Int32.ofNat k193)), .val (.int (Int32.ofNat k207)), .val (.int (Int32.ofNat k219)), .val (.int (Int32.ofNat k229)), .val (.int (za k149)), .val (.int (za k178)), .val (.int (za k193)), .val (.int (za k207)), .unset, .unset]) rfl ?_
    refine own_aloadN K own_d11_578 rfl rfl ?_
    refine own_iload K own_d11_579 rfl ?_
    refine own_iaload K own_d11_581 H244 (i := 3) rfl (q := k219) (own_oN ltk219) (own_vz ltk219) ?_
    refine own_istore K own_d11_582 (Ls' := #[.val (.long pk), .second, .val (.int mo), .val (.ref a3), .val (.ref a42), .val (.int (1 : Int32)), .val (.int (5 : Int32)), .val (.ref a99), .val (.ref (aa k149)), .val (.ref (aa k178)), .val (.ref (aa k193)), .val (.ref (aa k207)), .val (.ref (aa k219)), .val (.ref (aa k229)), .val (.int (1 : Int32)), .val (.int (Int32.ofNat k149)), .val (.int (Int32.ofNat k178)), .val (.int (Int32.ofNat k193)), .val (.int (Int32.ofNat k207)), .val (.int (Int32.ofNat k219)), .val (.int (Int32.ofNat k229)), .val (.int (za k149)), .val (.int (za k178)), .val (.int (za k193)), .val (.int (za k207)), .val (.int (za k219)), .unset]) rfl ?_
    refine own_aloadN K own_d11_584 rfl rfl ?_
    refine own_iload K own_d11_585 rfl ?_
    refine own_iaload K own_d11_587 H244 (i := 3) rfl (q := k229) (own_oN ltk229) (own_vz ltk229) ?_
    refine own_istore K own_d11_588 (Ls' := #[.val (.long pk), .second, .val (.int mo), .val (.ref a3), .val (.ref a42), .val (.int (1 : Int32)), .val (.int (5 : Int32)), .val (.ref a99), .val (.ref (aa k149)), .val (.ref (aa k178)), .val (.ref (aa k193)), .val (.ref (aa k207)), .val (.ref (aa k219)), .val (.ref (aa k229)), .val (.int (1 : Int32)), .val (.int (Int32.ofNat k149)), .val (.int (Int32.ofNat k178)), .val (.int (Int32.ofNat k193)), .val (.int (Int32.ofNat k207)), .val (.int (Int32.ofNat k219)), .val (.int (Int32.ofNat k229)), .val (.int (za k149)), .val (.int (za k178)), .val (.int (za k193)), .val (.int (za k207)), .val (.int (za k219)), .val (.int (za k229))]) rfl ?_
    refine own_iload K own_d11_590 rfl ?_
    refine own_aloadN K own_d11_592 rfl rfl ?_
    refine own_iload K own_d11_593 rfl ?_
    have H263 := H244.frontA 3 rfl
    replace H263 : own_H Z h234 (own_DP a99 (.ref ta104) (.ref ca105) (.int (0 : Int32)) :: own_CN (aa 5) (.double (FP.i2d (za 5))) .null (.int (0 : Int32)) (.int (1 : Int32)) :: own_CN (aa 4) (.double (FP.i2d (za 4))) .null (.int (0 : Int32)) (.int (1 : Int32)) :: own_CN (aa 3) (.double (FP.i2d (za 3))) .null (.int (0 : Int32)) (.int (1 : Int32)) :: own_CN (aa 2) (.double (FP.i2d (za 2))) .null (.int (0 : Int32)) (.int (1 : Int32)) :: own_CN (aa 1) (.double (FP.i2d (za 1))) .null (.int (0 : Int32)) (.int (1 : Int32)) :: own_CN (aa 0) (.double (FP.i2d (za 0))) .null (.int (0 : Int32)) (.int (1 : Int32)) :: []) ((a3, .int, "[I", [(.int (za 0)), (.int (za 1)), (.int (za 2)), (.int (za 3)), (.int (za 4)), (.int (za 5))]) :: (a42, (.object "com/example/slotwise/slotwise/Simulation$Connection"), "[Lcom/example/slotwise/slotwise/Simulation$Connection;", [(.ref (aa 0)), (.ref (aa 1)), (.ref (aa 2)), (.ref (aa 3)), (.ref (aa 4)), (.ref (aa 5))]) :: (ta104, .double, "[D", ((.double (FP.i2d (za k229))) :: (.double (FP.i2d (za k220))) :: (.double (FP.i2d (za k209))) :: (.double (FP.i2d (za k196))) :: (.double (FP.i2d (za k182))) :: (.double (0 : UInt64)) :: (List.replicate 58 (.double (0 : UInt64))))) :: (ca105, (.object "com/example/slotwise/slotwise/Simulation$Connection"), "[Lcom/example/slotwise/slotwise/Simulation$Connection;", (.null :: .null :: .null :: .null :: .null :: .null :: (List.replicate 58 .null))) :: []) := H263
    refine own_static K own_d11_595 (own_w68 hw) (own_w69 hw) (own_w3 hw) (own_w70 hw) (argsL := [(.ref a3), (.int (5 : Int32))]) (rest := [(.int (za k149))]) (own_mut5 hw H263) own_pd9 rfl rfl rfl (by decide) (W := 1) (Nat.le_of_eq rfl) (by decide) (by decide) (by decide) (by decide) ?_
    intro v266 h264 q265
    obtain ⟨⟨im, him, rfl⟩, rfl⟩ := q265
    refine own_icmple K own_d11_598 (fun _ => ?_) (fun q => absurd (RM im him) q)
    refine own_iload K own_d11_603 rfl ?_
    refine own_bipush K own_d11_605 (v := (6 : Int32)) rfl ?_
    refine own_icmpne K own_d11_607 (fun _ => ?_) (fun q => absurd (by decide) q)
    refine own_iload K own_d11_619 rfl ?_
    refine own_iload K own_d11_621 rfl ?_
    refine own_icmpgt K own_d11_623 (fun q => absurd q (Int.not_lt.mpr le202)) (fun _ => ?_)
    refine own_iload K own_d11_626 rfl ?_
    refine own_iload K own_d11_628 rfl ?_
    refine own_icmpgt K own_d11_630 (fun q => absurd q (Int.not_lt.mpr le214)) (fun _ => ?_)
    refine own_iload K own_d11_633 rfl ?_
    refine own_iload K own_d11_635 rfl ?_
    refine own_icmpgt K own_d11_637 (fun q => absurd q (Int.not_lt.mpr le224)) (fun _ => ?_)
    refine own_iload K own_d11_640 rfl ?_
    refine own_iload K own_d11_642 rfl ?_
    refine own_icmpgt K own_d11_644 (fun q => absurd q (Int.not_lt.mpr le232)) (fun _ => ?_)
    refine own_iload K own_d11_647 rfl ?_
    refine own_ifeq K own_d11_649 (fun q => absurd q (by decide)) (fun _ => ?_)
    refine own_iconst K own_d11_652 (v := (1 : Int32)) rfl ?_
    refine own_goto K own_d11_653 ?_
    exact own_retZ K (by first | exact Or.inl rfl | exact Or.inr rfl | decide) own_d11_657 (by decide) (by decide) (rfl)
  · refine own_bipush K own_d11_0 (v := (6 : Int32)) rfl ?_
    refine own_newarray K own_d11_2 (ty := .int) rfl (own_w0 hw) H (q := 6) (by decide) (ad := "[I") (by decide +kernel) (vs := [(.int (0 : Int32)), (.int (0 : Int32)), (.int (0 : Int32)), (.int (0 : Int32)), (.int (0 : Int32)), (.int (0 : Int32))]) rfl (by decide) (by decide) (by decide) ?_
    intro h1 a3 H2
    replace H2 : own_H Z h1 ([]) ((a3, .int, "[I", [(.int (0 : Int32)), (.int (0 : Int32)), (.int (0 : Int32)), (.int (0 : Int32)), (.int (0 : Int32)), (.int (0 : Int32))]) :: []) := H2
    refine own_astoreN K own_d11_4 rfl (Ls' := #[.val (.long pk), .second, .val (.int mo), .val (.ref a3), .unset, .unset, .unset, .unset, .unset, .unset, .unset, .unset, .unset, .unset, .unset, .unset, .unset, .unset, .unset, .unset, .unset, .unset, .unset, .unset, .unset, .unset, .unset]) rfl ?_
    refine own_aloadN K own_d11_5 rfl rfl ?_
    refine own_iconst K own_d11_6 (v := (0 : Int32)) rfl ?_
    refine own_lloadN K own_d11_7 rfl ?_
    refine own_iconst K own_d11_8 (v := (0 : Int32)) rfl ?_
    refine own_static K own_d11_9 (own_w1 hw) (own_w2 hw) (own_w3 hw) (own_w4 hw) (argsL := [(.long pk), (.int (0 : Int32))]) (rest := [(.int (0 : Int32)), (.ref a3)]) (own_fld hw) own_pd3 rfl rfl rfl (by decide) (W := 2) (Nat.le_of_eq rfl) (by decide) (by decide) (by decide) (by decide) ?_
    intro v6 h4 q5
    obtain ⟨⟨z7, rfl⟩, rfl⟩ := q5
    refine own_iastore K own_d11_12 H2 (i := 0) rfl (q := 0) (by decide) (own_le rfl) ?_
    intro h8 H9
    replace H9 : own_H Z h8 ([]) ((a3, .int, "[I", [(.int z7), (.int (0 : Int32)), (.int (0 : Int32)), (.int (0 : Int32)), (.int (0 : Int32)), (.int (0 : Int32))]) :: []) := H9
    refine own_aloadN K own_d11_13 rfl rfl ?_
    refine own_iconst K own_d11_14 (v := (1 : Int32)) rfl ?_
    refine own_lloadN K own_d11_15 rfl ?_
    refine own_iconst K own_d11_16 (v := (1 : Int32)) rfl ?_
    refine own_static K own_d11_17 (own_w1 hw) (own_w2 hw) (own_w3 hw) (own_w4 hw) (argsL := [(.long pk), (.int (1 : Int32))]) (rest := [(.int (1 : Int32)), (.ref a3)]) (own_fld hw) own_pd3 rfl rfl rfl (by decide) (W := 2) (Nat.le_of_eq rfl) (by decide) (by decide) (by decide) (by decide) ?_
    intro v12 h10 q11
    obtain ⟨⟨z13, rfl⟩, rfl⟩ := q11
    refine own_iastore K own_d11_20 H9 (i := 0) rfl (q := 1) (by decide) (own_le rfl) ?_
    intro h14 H15
    replace H15 : own_H Z h14 ([]) ((a3, .int, "[I", [(.int z7), (.int z13), (.int (0 : Int32)), (.int (0 : Int32)), (.int (0 : Int32)), (.int (0 : Int32))]) :: []) := H15
    refine own_aloadN K own_d11_21 rfl rfl ?_
    refine own_iconst K own_d11_22 (v := (2 : Int32)) rfl ?_
    refine own_lloadN K own_d11_23 rfl ?_
    refine own_iconst K own_d11_24 (v := (2 : Int32)) rfl ?_
    refine own_static K own_d11_25 (own_w1 hw) (own_w2 hw) (own_w3 hw) (own_w4 hw) (argsL := [(.long pk), (.int (2 : Int32))]) (rest := [(.int (2 : Int32)), (.ref a3)]) (own_fld hw) own_pd3 rfl rfl rfl (by decide) (W := 2) (Nat.le_of_eq rfl) (by decide) (by decide) (by decide) (by decide) ?_
    intro v18 h16 q17
    obtain ⟨⟨z19, rfl⟩, rfl⟩ := q17
    refine own_iastore K own_d11_28 H15 (i := 0) rfl (q := 2) (by decide) (own_le rfl) ?_
    intro h20 H21
    replace H21 : own_H Z h20 ([]) ((a3, .int, "[I", [(.int z7), (.int z13), (.int z19), (.int (0 : Int32)), (.int (0 : Int32)), (.int (0 : Int32))]) :: []) := H21
    refine own_aloadN K own_d11_29 rfl rfl ?_
    refine own_iconst K own_d11_30 (v := (3 : Int32)) rfl ?_
    refine own_lloadN K own_d11_31 rfl ?_
    refine own_iconst K own_d11_32 (v := (3 : Int32)) rfl ?_
    refine own_static K own_d11_33 (own_w1 hw) (own_w2 hw) (own_w3 hw) (own_w4 hw) (argsL := [(.long pk), (.int (3 : Int32))]) (rest := [(.int (3 : Int32)), (.ref a3)]) (own_fld hw) own_pd3 rfl rfl rfl (by decide) (W := 2) (Nat.le_of_eq rfl) (by decide) (by decide) (by decide) (by decide) ?_
    intro v24 h22 q23
    obtain ⟨⟨z25, rfl⟩, rfl⟩ := q23
    refine own_iastore K own_d11_36 H21 (i := 0) rfl (q := 3) (by decide) (own_le rfl) ?_
    intro h26 H27
    replace H27 : own_H Z h26 ([]) ((a3, .int, "[I", [(.int z7), (.int z13), (.int z19), (.int z25), (.int (0 : Int32)), (.int (0 : Int32))]) :: []) := H27
    refine own_aloadN K own_d11_37 rfl rfl ?_
    refine own_iconst K own_d11_38 (v := (4 : Int32)) rfl ?_
    refine own_lloadN K own_d11_39 rfl ?_
    refine own_iconst K own_d11_40 (v := (4 : Int32)) rfl ?_
    refine own_static K own_d11_41 (own_w1 hw) (own_w2 hw) (own_w3 hw) (own_w4 hw) (argsL := [(.long pk), (.int (4 : Int32))]) (rest := [(.int (4 : Int32)), (.ref a3)]) (own_fld hw) own_pd3 rfl rfl rfl (by decide) (W := 2) (Nat.le_of_eq rfl) (by decide) (by decide) (by decide) (by decide) ?_
    intro v30 h28 q29
    obtain ⟨⟨z31, rfl⟩, rfl⟩ := q29
    refine own_iastore K own_d11_44 H27 (i := 0) rfl (q := 4) (by decide) (own_le rfl) ?_
    intro h32 H33
    replace H33 : own_H Z h32 ([]) ((a3, .int, "[I", [(.int z7), (.int z13), (.int z19), (.int z25), (.int z31), (.int (0 : Int32))]) :: []) := H33
    refine own_aloadN K own_d11_45 rfl rfl ?_
    refine own_iconst K own_d11_46 (v := (5 : Int32)) rfl ?_
    refine own_lloadN K own_d11_47 rfl ?_
    refine own_iconst K own_d11_48 (v := (5 : Int32)) rfl ?_
    refine own_static K own_d11_49 (own_w1 hw) (own_w2 hw) (own_w3 hw) (own_w4 hw) (argsL := [(.long pk), (.int (5 : Int32))]) (rest := [(.int (5 : Int32)), (.ref a3)]) (own_fld hw) own_pd3 rfl rfl rfl (by decide) (W := 2) (Nat.le_of_eq rfl) (by decide) (by decide) (by decide) (by decide) ?_
    intro v36 h34 q35
    obtain ⟨⟨z37, rfl⟩, rfl⟩ := q35
    refine own_iastore K own_d11_52 H33 (i := 0) rfl (q := 5) (by decide) (own_le rfl) ?_
    intro h38 H39
    replace H39 : own_H Z h38 ([]) ((a3, .int, "[I", [(.int z7), (.int z13), (.int z19), (.int z25), (.int z31), (.int z37)]) :: []) := H39
    obtain ⟨za, ez0, ez1, ez2, ez3, ez4, ez5⟩ : ∃ za : Nat → Int32, z7 = za 0 ∧ z13 = za 1 ∧ z19 = za 2 ∧ z25 = za 3 ∧ z31 = za 4 ∧ z37 = za 5 := ⟨fun j => [z7, z13, z19, z25, z31, z37].getD j 0, rfl, rfl, rfl, rfl, rfl, rfl⟩
    subst ez0 ez1 ez2 ez3 ez4 ez5
    refine own_bipush K own_d11_53 (v := (6 : Int32)) rfl ?_
    refine own_anewarray K own_d11_55 (own_w6 hw) (own_w7 hw) H39 (q := 6) (by decide) (ad := "[Lcom/example/slotwise/slotwise/Simulation$Connection;") (by decide +kernel) (vs := [.null, .null, .null, .null, .null, .null]) rfl (by decide) (by decide) (by decide) ?_
    intro h40 a42 H41
    replace H41 : own_H Z h40 ([]) ((a42, (.object "com/example/slotwise/slotwise/Simulation$Connection"), "[Lcom/example/slotwise/slotwise/Simulation$Connection;", [.null, .null, .null, .null, .null, .null]) :: (a3, .int, "[I", [(.int (za 0)), (.int (za 1)), (.int (za 2)), (.int (za 3)), (.int (za 4)), (.int (za 5))]) :: []) := H41
    refine own_astore K own_d11_58 rfl (Ls' := #[.val (.long pk), .second, .val (.int mo), .val (.ref a3), .val (.ref a42), .unset, .unset, .unset, .unset, .unset, .unset, .unset, .unset, .unset, .unset, .unset, .unset, .unset, .unset, .unset, .unset, .unset, .unset, .unset, .unset, .unset, .unset]) rfl ?_
    refine own_aload K own_d11_60 rfl rfl ?_
    refine own_iconst K own_d11_62 (v := (0 : Int32)) rfl ?_
    refine own_new K own_d11_63 (own_w6 hw) (own_w8 hw) (own_w9 hw) H41 (own_CN_F hw) (own_CN_P hw) (by decide) (by decide) ?_
    intro h43 a45 H44
    replace H44 : own_H Z h43 (own_CN a45 (.double (0 : UInt64)) .null (.int (0 : Int32)) (.int (0 : Int32)) :: []) ((a42, (.object "com/example/slotwise/slotwise/Simulation$Connection"), "[Lcom/example/slotwise/slotwise/Simulation$Connection;", [.null, .null, .null, .null, .null, .null]) :: (a3, .int, "[I", [(.int (za 0)), (.int (za 1)), (.int (za 2)), (.int (za 3)), (.int (za 4)), (.int (za 5))]) :: []) := H44
    refine own_dup K own_d11_66 rfl ?_
    refine own_aloadN K own_d11_67 rfl rfl ?_
    refine own_iconst K own_d11_68 (v := (0 : Int32)) rfl ?_
    refine own_iaload K own_d11_69 H44 (i := 1) rfl (q := 0) (by decide) (rfl) ?_
    refine own_i2d K own_d11_70 ?_
    refine own_aconstNull K own_d11_71 ?_
    refine own_iconst K own_d11_72 (v := (0 : Int32)) rfl ?_
    refine own_iconst K own_d11_73 (v := (1 : Int32)) rfl ?_
    refine own_special K own_d11_74 rfl (own_w10 hw) (own_w11 hw) (own_w9 hw) (own_w12 hw) (a := a45) (argsL := [(.double (FP.i2d (za 0))), .null, (.int (0 : Int32)), (.int (1 : Int32))]) (rest := [(.ref a45), (.int (0 : Int32)), (.ref a42)]) (own_ni hw H44) own_pd4 rfl rfl rfl (by decide) (W := 3) (Nat.le_of_eq rfl) (by decide) (by decide) (by decide) (by decide) ?_
    intro v48 h46 q47
    obtain ⟨rfl, H49⟩ := q47
    replace H49 : own_H Z h46 (own_CN a45 (.double (FP.i2d (za 0))) .null (.int (0 : Int32)) (.int (1 : Int32)) :: []) ((a42, (.object "com/example/slotwise/slotwise/Simulation$Connection"), "[Lcom/example/slotwise/slotwise/Simulation$Connection;", [.null, .null, .null, .null, .null, .null]) :: (a3, .int, "[I", [(.int (za 0)), (.int (za 1)), (.int (za 2)), (.int (za 3)), (.int (za 4)), (.int (za 5))]) :: []) := H49
    refine own_aastoreR K own_d11_77 H49 (i := 0) rfl (by decide) (Ins.self (H49.atO (i := 0) rfl)) (q := 0) (by decide) (own_le rfl) ?_
    intro h50 H51
    replace H51 : own_H Z h50 (own_CN a45 (.double (FP.i2d (za 0))) .null (.int (0 : Int32)) (.int (1 : Int32)) :: []) ((a42, (.object "com/example/slotwise/slotwise/Simulation$Connection"), "[Lcom/example/slotwise/slotwise/Simulation$Connection;", [(.ref a45), .null, .null, .null, .null, .null]) :: (a3, .int, "[I", [(.int (za 0)), (.int (za 1)), (.int (za 2)), (.int (za 3)), (.int (za 4)), (.int (za 5))]) :: []) := H51
    refine own_aload K own_d11_78 rfl rfl ?_
    refine own_iconst K own_d11_80 (v := (1 : Int32)) rfl ?_
    refine own_new K own_d11_81 (own_w6 hw) (own_w8 hw) (own_w9 hw) H51 (own_CN_F hw) (own_CN_P hw) (by decide) (by decide) ?_
    intro h52 a54 H53
    replace H53 : own_H Z h52 (own_CN a54 (.double (0 : UInt64)) .null (.int (0 : Int32)) (.int (0 : Int32)) :: own_CN a45 (.double (FP.i2d (za 0))) .null (.int (0 : Int32)) (.int (1 : Int32)) :: []) ((a42, (.object "com/example/slotwise/slotwise/Simulation$Connection"), "[Lcom/example/slotwise/slotwise/Simulation$Connection;", [(.ref a45), .null, .null, .null, .null, .null]) :: (a3, .int, "[I", [(.int (za 0)), (.int (za 1)), (.int (za 2)), (.int (za 3)), (.int (za 4)), (.int (za 5))]) :: []) := H53
    refine own_dup K own_d11_84 rfl ?_
    refine own_aloadN K own_d11_85 rfl rfl ?_
    refine own_iconst K own_d11_86 (v := (1 : Int32)) rfl ?_
    refine own_iaload K own_d11_87 H53 (i := 1) rfl (q := 1) (by decide) (rfl) ?_
    refine own_i2d K own_d11_88 ?_
    refine own_aconstNull K own_d11_89 ?_
    refine own_iconst K own_d11_90 (v := (0 : Int32)) rfl ?_
    refine own_iconst K own_d11_91 (v := (1 : Int32)) rfl ?_
    refine own_special K own_d11_92 rfl (own_w10 hw) (own_w11 hw) (own_w9 hw) (own_w12 hw) (a := a54) (argsL := [(.double (FP.i2d (za 1))), .null, (.int (0 : Int32)), (.int (1 : Int32))]) (rest := [(.ref a54), (.int (1 : Int32)), (.ref a42)]) (own_ni hw H53) own_pd4 rfl rfl rfl (by decide) (W := 3) (Nat.le_of_eq rfl) (by decide) (by decide) (by decide) (by decide) ?_
    intro v57 h55 q56
    obtain ⟨rfl, H58⟩ := q56
    replace H58 : own_H Z h55 (own_CN a54 (.double (FP.i2d (za 1))) .null (.int (0 : Int32)) (.int (1 : Int32)) :: own_CN a45 (.double (FP.i2d (za 0))) .null (.int (0 : Int32)) (.int (1 : Int32)) :: []) ((a42, (.object "com/example/slotwise/slotwise/Simulation$Connection"), "[Lcom/example/slotwise/slotwise/Simulation$Connection;", [(.ref a45), .null, .null, .null, .null, .null]) :: (a3, .int, "[I", [(.int (za 0)), (.int (za 1)), (.int (za 2)), (.int (za 3)), (.int (za 4)), (.int (za 5))]) :: []) := H58
    refine own_aastoreR K own_d11_95 H58 (i := 0) rfl (by decide) (Ins.self (H58.atO (i := 0) rfl)) (q := 1) (by decide) (own_le rfl) ?_
    intro h59 H60
    replace H60 : own_H Z h59 (own_CN a54 (.double (FP.i2d (za 1))) .null (.int (0 : Int32)) (.int (1 : Int32)) :: own_CN a45 (.double (FP.i2d (za 0))) .null (.int (0 : Int32)) (.int (1 : Int32)) :: []) ((a42, (.object "com/example/slotwise/slotwise/Simulation$Connection"), "[Lcom/example/slotwise/slotwise/Simulation$Connection;", [(.ref a45), (.ref a54), .null, .null, .null, .null]) :: (a3, .int, "[I", [(.int (za 0)), (.int (za 1)), (.int (za 2)), (.int (za 3)), (.int (za 4)), (.int (za 5))]) :: []) := H60
    refine own_aload K own_d11_96 rfl rfl ?_
    refine own_iconst K own_d11_98 (v := (2 : Int32)) rfl ?_
    refine own_new K own_d11_99 (own_w6 hw) (own_w8 hw) (own_w9 hw) H60 (own_CN_F hw) (own_CN_P hw) (by decide) (by decide) ?_
    intro h61 a63 H62
    replace H62 : own_H Z h61 (own_CN a63 (.double (0 : UInt64)) .null (.int (0 : Int32)) (.int (0 : Int32)) :: own_CN a54 (.double (FP.i2d (za 1))) .null (.int (0 : Int32)) (.int (1 : Int32)) :: own_CN a45 (.double (FP.i2d (za 0))) .null (.int (0 : Int32)) (.int (1 : Int32)) :: []) ((a42, (.object "com/example/slotwise/slotwise/Simulation$Connection"), "[Lcom/example/slotwise/slotwise/Simulation$Connection;", [(.ref a45), (.ref a54), .null, .null, .null, .null]) :: (a3, .int, "[I", [(.int (za 0)), (.int (za 1)), (.int (za 2)), (.int (za 3)), (.int (za 4)), (.int (za 5))]) :: []) := H62
    refine own_dup K own_d11_102 rfl ?_
    refine own_aloadN K own_d11_103 rfl rfl ?_
    refine own_iconst K own_d11_104 (v := (2 : Int32)) rfl ?_
    refine own_iaload K own_d11_105 H62 (i := 1) rfl (q := 2) (by decide) (rfl) ?_
    refine own_i2d K own_d11_106 ?_
    refine own_aconstNull K own_d11_107 ?_
    refine own_iconst K own_d11_108 (v := (0 : Int32)) rfl ?_
    refine own_iconst K own_d11_109 (v := (1 : Int32)) rfl ?_
    refine own_special K own_d11_110 rfl (own_w10 hw) (own_w11 hw) (own_w9 hw) (own_w12 hw) (a := a63) (argsL := [(.double (FP.i2d (za 2))), .null, (.int (0 : Int32)), (.int (1 : Int32))]) (rest := [(.ref a63), (.int (2 : Int32)), (.ref a42)]) (own_ni hw H62) own_pd4 rfl rfl rfl (by decide) (W := 3) (Nat.le_of_eq rfl) (by decide) (by decide) (by decide) (by decide) ?_
    intro v66 h64 q65
    obtain ⟨rfl, H67⟩ := q65
    replace H67 : own_H Z h64 (own_CN a63 (.double (FP.i2d (za 2))) .null (.int (0 : Int32)) (.int (1 : Int32)) :: own_CN a54 (.double (FP.i2d (za 1))) .null (.int (0 : Int32)) (.int (1 : Int32)) :: own_CN a45 (.double (FP.i2d (za 0))) .null (.int (0 : Int32)) (.int (1 : Int32)) :: []) ((a42, (.object "com/example/slotwise/slotwise/Simulation$Connection"), "[Lcom/example/slotwise/slotwise/Simulation$Connection;", [(.ref a45), (.ref a54), .null, .null, .null, .null]) :: (a3, .int, "[I", [(.int (za 0)), (.int (za 1)), (.int (za 2)), (.int (za 3)), (.int (za 4)), (.int (za 5))]) :: []) := H67
    refine own_aastoreR K own_d11_113 H67 (i := 0) rfl (by decide) (Ins.self (H67.atO (i := 0) rfl)) (q := 2) (by decide) (own_le rfl) ?_
    intro h68 H69
    replace H69 : own_H Z h68 (own_CN a63 (.double (FP.i2d (za 2))) .null (.int (0 : Int32)) (.int (1 : Int32)) :: own_CN a54 (.double (FP.i2d (za 1))) .null (.int (0 : Int32)) (.int (1 : Int32)) :: own_CN a45 (.double (FP.i2d (za 0))) .null (.int (0 : Int32)) (.int (1 : Int32)) :: []) ((a42, (.object "com/example/slotwise/slotwise/Simulation$Connection"), "[Lcom/example/slotwise/slotwise/Simulation$Connection;", [(.ref a45), (.ref a54), (.ref a63), .null, .null, .null]) :: (a3, .int, "[I", [(.int (za 0)), (.int (za 1)), (.int (za 2)), (.int (za 3)), (.int (za 4)), (.int (za 5))]) :: []) := H69
    refine own_aload K own_d11_114 rfl rfl ?_
    refine own_iconst K own_d11_116 (v := (3 : Int32)) rfl ?_
    refine own_new K own_d11_117 (own_w6 hw) (own_w8 hw) (own_w9 hw) H69 (own_CN_F hw) (own_CN_P hw) (by decide) (by decide) ?_
    intro h70 a72 H71
    replace H71 : own_H Z h70 (own_CN a72 (.double (0 : UInt64)) .null (.int (0 : Int32)) (.int (0 : Int32)) :: own_CN a63 (.double (FP.i2d (za 2))) .null (.int (0 : Int32)) (.int (1 : Int32)) :: own_CN a54 (.double (FP.i2d (za 1))) .null (.int (0 : Int32)) (.int (1 : Int32)) :: own_CN a45 (.double (FP.i2d (za 0))) .null (.int (0 : Int32)) (.int (1 : Int32)) :: []) ((a42, (.object "com/example/slotwise/slotwise/Simulation$Connection"), "[Lcom/example/slotwise/slotwise/Simulation$Connection;", [(.ref a45), (.ref a54), (.ref a63), .null, .null, .null]) :: (a3, .int, "[I", [(.int (za 0)), (.int (za 1)), (.int (za 2)), (.int (za 3)), (.int (za 4)), (.int (za 5))]) :: []) := H71
    refine own_dup K own_d11_120 rfl ?_
    refine own_aloadN K own_d11_121 rfl rfl ?_
    refine own_iconst K own_d11_122 (v := (3 : Int32)) rfl ?_
    refine own_iaload K own_d11_123 H71 (i := 1) rfl (q := 3) (by decide) (rfl) ?_
    refine own_i2d K own_d11_124 ?_
    refine own_aconstNull K own_d11_125 ?_
    refine own_iconst K own_d11_126 (v := (0 : Int32)) rfl ?_
    refine own_iconst K own_d11_127 (v := (1 : Int32)) rfl ?_
    refine own_special K own_d11_128 rfl (own_w10 hw) (own_w11 hw) (own_w9 hw) (own_w12 hw) (a := a72) (argsL := [(.double (FP.i2d (za 3))), .null, (.int (0 : Int32)), (.int (1 : Int32))]) (rest := [(.ref a72), (.int (3 : Int32)), (.ref a42)]) (own_ni hw H71) own_pd4 rfl rfl rfl (by decide) (W := 3) (Nat.le_of_eq rfl) (by decide) (by decide) (by decide) (by decide) ?_
    intro v75 h73 q74
    obtain ⟨rfl, H76⟩ := q74
    replace H76 : own_H Z h73 (own_CN a72 (.double (FP.i2d (za 3))) .null (.int (0 : Int32)) (.int (1 : Int32)) :: own_CN a63 (.double (FP.i2d (za 2))) .null (.int (0 : Int32)) (.int (1 : Int32)) :: own_CN a54 (.double (FP.i2d (za 1))) .null (.int (0 : Int32)) (.int (1 : Int32)) :: own_CN a45 (.double (FP.i2d (za 0))) .null (.int (0 : Int32)) (.int (1 : Int32)) :: []) ((a42, (.object "com/example/slotwise/slotwise/Simulation$Connection"), "[Lcom/example/slotwise/slotwise/Simulation$Connection;", [(.ref a45), (.ref a54), (.ref a63), .null, .null, .null]) :: (a3, .int, "[I", [(.int (za 0)), (.int (za 1)), (.int (za 2)), (.int (za 3)), (.int (za 4)), (.int (za 5))]) :: []) := H76
    refine own_aastoreR K own_d11_131 H76 (i := 0) rfl (by decide) (Ins.self (H76.atO (i := 0) rfl)) (q := 3) (by decide) (own_le rfl) ?_
    intro h77 H78
    replace H78 : own_H Z h77 (own_CN a72 (.double (FP.i2d (za 3))) .null (.int (0 : Int32)) (.int (1 : Int32)) :: own_CN a63 (.double (FP.i2d (za 2))) .null (.int (0 : Int32)) (.int (1 : Int32)) :: own_CN a54 (.double (FP.i2d (za 1))) .null (.int (0 : Int32)) (.int (1 : Int32)) :: own_CN a45 (.double (FP.i2d (za 0))) .null (.int (0 : Int32)) (.int (1 : Int32)) :: []) ((a42, (.object "com/example/slotwise/slotwise/Simulation$Connection"), "[Lcom/example/slotwise/slotwise/Simulation$Connection;", [(.ref a45), (.ref a54), (.ref a63), (.ref a72), .null, .null]) :: (a3, .int, "[I", [(.int (za 0)), (.int (za 1)), (.int (za 2)), (.int (za 3)), (.int (za 4)), (.int (za 5))]) :: []) := H78
    refine own_aload K own_d11_132 rfl rfl ?_
    refine own_iconst K own_d11_134 (v := (4 : Int32)) rfl ?_
    refine own_new K own_d11_135 (own_w6 hw) (own_w8 hw) (own_w9 hw) H78 (own_CN_F hw) (own_CN_P hw) (by decide) (by decide) ?_
    intro h79 a81 H80
    replace H80 : own_H Z h79 (own_CN a81 (.double (0 : UInt64)) .null (.int (0 : Int32)) (.int (0 : Int32)) :: own_CN a72 (.double (FP.i2d (za 3))) .null (.int (0 : Int32)) (.int (1 : Int32)) :: own_CN a63 (.double (FP.i2d (za 2))) .null (.int (0 : Int32)) (.int (1 : Int32)) :: own_CN a54 (.double (FP.i2d (za 1))) .null (.int (0 : Int32)) (.int (1 : Int32)) :: own_CN a45 (.double (FP.i2d (za 0))) .null (.int (0 : Int32)) (.int (1 : Int32)) :: []) ((a42, (.object "com/example/slotwise/slotwise/Simulation$Connection"), "[Lcom/example/slotwise/slotwise/Simulation$Connection;", [(.ref a45), (.ref a54), (.ref a63), (.ref a72), .null, .null]) :: (a3, .int, "[I", [(.int (za 0)), (.int (za 1)), (.int (za 2)), (.int (za 3)), (.int (za 4)), (.int (za 5))]) :: []) := H80
    refine own_dup K own_d11_138 rfl ?_
    refine own_aloadN K own_d11_139 rfl rfl ?_
    refine own_iconst K own_d11_140 (v := (4 : Int32)) rfl ?_
    refine own_iaload K own_d11_141 H80 (i := 1) rfl (q := 4) (by decide) (rfl) ?_
    refine own_i2d K own_d11_142 ?_
    refine own_aconstNull K own_d11_143 ?_
    refine own_iconst K own_d11_144 (v := (0 : Int32)) rfl ?_
    refine own_iconst K own_d11_145 (v := (1 : Int32)) rfl ?_
    refine own_special K own_d11_146 rfl (own_w10 hw) (own_w11 hw) (own_w9 hw) (own_w12 hw) (a := a81) (argsL := [(.double (FP.i2d (za 4))), .null, (.int (0 : Int32)), (.int (1 : Int32))]) (rest := [(.ref a81), (.int (4 : Int32)), (.ref a42)]) (own_ni hw H80) own_pd4 rfl rfl rfl (by decide) (W := 3) (Nat.le_of_eq rfl) (by decide) (by decide) (by decide) (by decide) ?_
    intro v84 h82 q83
    obtain ⟨rfl, H85⟩ := q83
    replace H85 : own_H Z h82 (own_CN a81 (.double (FP.i2d (za 4))) .null (.int (0 : Int32)) (.int (1 : Int32)) :: own_CN a72 (.double (FP.i2d (za 3))) .null (.int (0 : Int32)) (.int (1 : Int32)) :: own_CN a63 (.double (FP.i2d (za 2))) .null (.int (0 : Int32)) (.int (1 : Int32)) :: own_CN a54 (.double (FP.i2d (za 1))) .null (.int (0 : Int32)) (.int (1 : Int32)) :: own_CN a45 (.double (FP.i2d (za 0))) .null (.int (0 : Int32)) (.int (1 : Int32)) :: []) ((a42, (.object "com/example/slotwise/slotwise/Simulation$Connection"), "[Lcom/example/slotwise/slotwise/Simulation$Connection;", [(.ref a45), (.ref a54), (.ref a63), (.ref a72), .null, .null]) :: (a3, .int, "[I", [(.int (za 0)), (.int (za 1)), (.int (za 2)), (.int (za 3)), (.int (za 4)), (.int (za 5))]) :: []) := H85
    refine own_aastoreR K own_d11_149 H85 (i := 0) rfl (by decide) (Ins.self (H85.atO (i := 0) rfl)) (q := 4) (by decide) (own_le rfl) ?_
    intro h86 H87
    replace H87 : own_H Z h86 (own_CN a81 (.double (FP.i2d (za 4))) .null (.int (0 : Int32)) (.int (1 : Int32)) :: own_CN a72 (.double (FP.i2d (za 3))) .null (.int (0 : Int32)) (.int (1 : Int32)) :: own_CN a63 (.double (FP.i2d (za 2))) .null (.int (0 : Int32)) (.int (1 : Int32)) :: own_CN a54 (.double (FP.i2d (za 1))) .null (.int (0 : Int32)) (.int (1 : Int32)) :: own_CN a45 (.double (FP.i2d (za 0))) .null (.int (0 : Int32)) (.int (1 : Int32)) :: []) ((a42, (.object "com/example/slotwise/slotwise/Simulation$Connection"), "[Lcom/example/slotwise/slotwise/Simulation$Connection;", [(.ref a45), (.ref a54), (.ref a63), (.ref a72), (.ref a81), .null]) :: (a3, .int, "[I", [(.int (za 0)), (.int (za 1)), (.int (za 2)), (.int (za 3)), (.int (za 4)), (.int (za 5))]) :: []) := H87
    refine own_aload K own_d11_150 rfl rfl ?_
    refine own_iconst K own_d11_152 (v := (5 : Int32)) rfl ?_
    refine own_new K own_d11_153 (own_w6 hw) (own_w8 hw) (own_w9 hw) H87 (own_CN_F hw) (own_CN_P hw) (by decide) (by decide) ?_
    intro h88 a90 H89
    replace H89 : own_H Z h88 (own_CN a90 (.double (0 : UInt64)) .null (.int (0 : Int32)) (.int (0 : Int32)) :: own_CN a81 (.double (FP.i2d (za 4))) .null (.int (0 : Int32)) (.int (1 : Int32)) :: own_CN a72 (.double (FP.i2d (za 3))) .null (.int (0 : Int32)) (.int (1 : Int32)) :: own_CN a63 (.double (FP.i2d (za 2))) .null (.int (0 : Int32)) (.int (1 : Int32)) :: own_CN a54 (.double (FP.i2d (za 1))) .null (.int (0 : Int32)) (.int (1 : Int32)) :: own_CN a45 (.double (FP.i2d (za 0))) .null (.int (0 : Int32)) (.int (1 : Int32)) :: []) ((a42, (.object "com/example/slotwise/slotwise/Simulation$Connection"), "[Lcom/example/slotwise/slotwise/Simulation$Connection;", [(.ref a45), (.ref a54), (.ref a63), (.ref a72), (.ref a81), .null]) :: (a3, .int, "[I", [(.int (za 0)), (.int (za 1)), (.int (za 2)), (.int (za 3)), (.int (za 4)), (.int (za 5))]) :: []) := H89
    refine own_dup K own_d11_156 rfl ?_
    refine own_aloadN K own_d11_157 rfl rfl ?_
    refine own_iconst K own_d11_158 (v := (5 : Int32)) rfl ?_
    refine own_iaload K own_d11_159 H89 (i := 1) rfl (q := 5) (by decide) (rfl) ?_
    refine own_i2d K own_d11_160 ?_
    refine own_aconstNull K own_d11_161 ?_
    refine own_iconst K own_d11_162 (v := (0 : Int32)) rfl ?_
    refine own_iconst K own_d11_163 (v := (1 : Int32)) rfl ?_
    refine own_special K own_d11_164 rfl (own_w10 hw) (own_w11 hw) (own_w9 hw) (own_w12 hw) (a := a90) (argsL := [(.double (FP.i2d (za 5))), .null, (.int (0 : Int32)), (.int (1 : Int32))]) (rest := [(.ref a90), (.int (5 : Int32)), (.ref a42)]) (own_ni hw H89) own_pd4 rfl rfl rfl (by decide) (W := 3) (Nat.le_of_eq rfl) (by decide) (by decide) (by decide) (by decide) ?_
    intro v93 h91 q92
    obtain ⟨rfl, H94⟩ := q92
    replace H94 : own_H Z h91 (own_CN a90 (.double (FP.i2d (za 5))) .null (.int (0 : Int32)) (.int (1 : Int32)) :: own_CN a81 (.double (FP.i2d (za 4))) .null (.int (0 : Int32)) (.int (1 : Int32)) :: own_CN a72 (.double (FP.i2d (za 3))) .null (.int (0 : Int32)) (.int (1 : Int32)) :: own_CN a63 (.double (FP.i2d (za 2))) .null (.int (0 : Int32)) (.int (1 : Int32)) :: own_CN a54 (.double (FP.i2d (za 1))) .null (.int (0 : Int32)) (.int (1 : Int32)) :: own_CN a45 (.double (FP.i2d (za 0))) .null (.int (0 : Int32)) (.int (1 : Int32)) :: []) ((a42, (.object "com/example/slotwise/slotwise/Simulation$Connection"), "[Lcom/example/slotwise/slotwise/Simulation$Connection;", [(.ref a45), (.ref a54), (.ref a63), (.ref a72), (.ref a81), .null]) :: (a3, .int, "[I", [(.int (za 0)), (.int (za 1)), (.int (za 2)), (.int (za 3)), (.int (za 4)), (.int (za 5))]) :: []) := H94
    refine own_aastoreR K own_d11_167 H94 (i := 0) rfl (by decide) (Ins.self (H94.atO (i := 0) rfl)) (q := 5) (by decide) (own_le rfl) ?_
    intro h95 H96
    replace H96 : own_H Z h95 (own_CN a90 (.double (FP.i2d (za 5))) .null (.int (0 : Int32)) (.int (1 : Int32)) :: own_CN a81 (.double (FP.i2d (za 4))) .null (.int (0 : Int32)) (.int (1 : Int32)) :: own_CN a72 (.double (FP.i2d (za 3))) .null (.int (0 : Int32)) (.int (1 : Int32)) :: own_CN a63 (.double (FP.i2d (za 2))) .null (.int (0 : Int32)) (.int (1 : Int32)) :: own_CN a54 (.double (FP.i2d (za 1))) .null (.int (0 : Int32)) (.int (1 : Int32)) :: own_CN a45 (.double (FP.i2d (za 0))) .null (.int (0 : Int32)) (.int (1 : Int32)) :: []) ((a42, (.object "com/example/slotwise/slotwise/Simulation$Connection"), "[Lcom/example/slotwise/slotwise/Simulation$Connection;", [(.ref a45), (.ref a54), (.ref a63), (.ref a72), (.ref a81), (.ref a90)]) :: (a3, .int, "[I", [(.int (za 0)), (.int (za 1)), (.int (za 2)), (.int (za 3)), (.int (za 4)), (.int (za 5))]) :: []) := H96
    obtain ⟨aa, ea0, ea1, ea2, ea3, ea4, ea5⟩ : ∃ aa : Nat → Addr, a45 = aa 0 ∧ a54 = aa 1 ∧ a63 = aa 2 ∧ a72 = aa 3 ∧ a81 = aa 4 ∧ a90 = aa 5 := ⟨fun j => [a45, a54, a63, a72, a81, a90].getD j 0, rfl, rfl, rfl, rfl, rfl, rfl⟩
    subst ea0 ea1 ea2 ea3 ea4 ea5
    replace H96 : own_H Z h95 (own_CN (aa 5) (.double (FP.i2d (za 5))) .null (.int (0 : Int32)) (.int (1 : Int32)) :: own_CN (aa 4) (.double (FP.i2d (za 4))) .null (.int (0 : Int32)) (.int (1 : Int32)) :: own_CN (aa 3) (.double (FP.i2d (za 3))) .null (.int (0 : Int32)) (.int (1 : Int32)) :: own_CN (aa 2) (.double (FP.i2d (za 2))) .null (.int (0 : Int32)) (.int (1 : Int32)) :: own_CN (aa 1) (.double (FP.i2d (za 1))) .null (.int (0 : Int32)) (.int (1 : Int32)) :: own_CN (aa 0) (.double (FP.i2d (za 0))) .null (.int (0 : Int32)) (.int (1 : Int32)) :: []) ((a42, (.object "com/example/slotwise/slotwise/Simulation$Connection"), "[Lcom/example/slotwise/slotwise/Simulation$Connection;", [(.ref (aa 0)), (.ref (aa 1)), (.ref (aa 2)), (.ref (aa 3)), (.ref (aa 4)), (.ref (aa 5))]) :: (a3, .int, "[I", [(.int (za 0)), (.int (za 1)), (.int (za 2)), (.int (za 3)), (.int (za 4)), (.int (za 5))]) :: []) := H96
    have n01 : aa 0 ≠ aa 1 := H96.neOO (i := 5) (j := 4) rfl rfl (by decide)
    have n02 : aa 0 ≠ aa 2 := H96.neOO (i := 5) (j := 3) rfl rfl (by decide)
    have n03 : aa 0 ≠ aa 3 := H96.neOO (i := 5) (j := 2) rfl rfl (by decide)
    have n04 : aa 0 ≠ aa 4 := H96.neOO (i := 5) (j := 1) rfl rfl (by decide)
    have n05 : aa 0 ≠ aa 5 := H96.neOO (i := 5) (j := 0) rfl rfl (by decide)
    have n12 : aa 1 ≠ aa 2 := H96.neOO (i := 4) (j := 3) rfl rfl (by decide)
    have n13 : aa 1 ≠ aa 3 := H96.neOO (i := 4) (j := 2) rfl rfl (by decide)
    have n14 : aa 1 ≠ aa 4 := H96.neOO (i := 4) (j := 1) rfl rfl (by decide)
    have n15 : aa 1 ≠ aa 5 := H96.neOO (i := 4) (j := 0) rfl rfl (by decide)
    have n23 : aa 2 ≠ aa 3 := H96.neOO (i := 3) (j := 2) rfl rfl (by decide)
    have n24 : aa 2 ≠ aa 4 := H96.neOO (i := 3) (j := 1) rfl rfl (by decide)
    have n25 : aa 2 ≠ aa 5 := H96.neOO (i := 3) (j := 0) rfl rfl (by decide)
    have n34 : aa 3 ≠ aa 4 := H96.neOO (i := 2) (j := 1) rfl rfl (by decide)
    have n35 : aa 3 ≠ aa 5 := H96.neOO (i := 2) (j := 0) rfl rfl (by decide)
    have n45 : aa 4 ≠ aa 5 := H96.neOO (i := 1) (j := 0) rfl rfl (by decide)
    have hne : ∀ i j, i < 6 → j < 6 → i ≠ j → aa i ≠ aa j := by intro i j hi hj hij; rcases own_lt6 hi with q' | q' | q' | q' | q' | q' <;> rcases own_lt6 hj with r' | r' | r' | r' | r' | r' <;> subst q' <;> subst r' <;> first | exact absurd rfl hij | assumption | (apply Ne.symm; assumption)
    have ho : ∀ j, j < 6 → ∃ i : Nat, ((own_CN (aa 5) (.double (FP.i2d (za 5))) .null (.int (0 : Int32)) (.int (1 : Int32)) :: own_CN (aa 4) (.double (FP.i2d (za 4))) .null (.int (0 : Int32)) (.int (1 : Int32)) :: own_CN (aa 3) (.double (FP.i2d (za 3))) .null (.int (0 : Int32)) (.int (1 : Int32)) :: own_CN (aa 2) (.double (FP.i2d (za 2))) .null (.int (0 : Int32)) (.int (1 : Int32)) :: own_CN (aa 1) (.double (FP.i2d (za 1))) .null (.int (0 : Int32)) (.int (1 : Int32)) :: own_CN (aa 0) (.double (FP.i2d (za 0))) .null (.int (0 : Int32)) (.int (1 : Int32)) :: []) : List own_O)[i]? = some (own_c aa za j) := by intro j hj; rcases own_lt6 hj with q' | q' | q' | q' | q' | q' <;> subst q' <;> first | exact ⟨0, rfl⟩ | exact ⟨1, rfl⟩ | exact ⟨2, rfl⟩ | exact ⟨3, rfl⟩ | exact ⟨4, rfl⟩ | exact ⟨5, rfl⟩
    refine own_iloadN K own_d11_168 rfl ?_
    refine own_iconst K own_d11_169 (v := (3 : Int32)) rfl ?_
    refine own_iand K own_d11_170 ?_
    refine own_topI (x' := (2 : Int32)) (q) ?_
    refine own_istore K own_d11_171 (Ls' := #[.val (.long pk), .second, .val (.int mo), .val (.ref a3), .val (.ref a42), .val (.int (2 : Int32)), .unset, .unset, .unset, .unset, .unset, .unset, .unset, .unset, .unset, .unset, .unset, .unset, .unset, .unset, .unset, .unset, .unset, .unset, .unset, .unset, .unset]) rfl ?_
    refine own_iload K own_d11_173 rfl ?_
    refine own_ifne K own_d11_175 (fun _ => ?_) (fun q => absurd (by decide) q)
    refine own_iload K own_d11_183 rfl ?_
    refine own_iconst K own_d11_185 (v := (1 : Int32)) rfl ?_
    refine own_icmpne K own_d11_186 (fun _ => ?_) (fun q => absurd (by decide) q)
    refine own_iload K own_d11_193 rfl ?_
    refine own_iconst K own_d11_195 (v := (2 : Int32)) rfl ?_
    refine own_icmpne K own_d11_196 (fun q => absurd q (by decide)) (fun _ => ?_)
    refine own_iconst K own_d11_199 (v := (3 : Int32)) rfl ?_
    refine own_goto K own_d11_200 ?_
    refine own_istore K own_d11_204 (Ls' := #[.val (.long pk), .second, .val (.int mo), .val (.ref a3), .val (.ref a42), .val (.int (2 : Int32)), .val (.int (3 : Int32)), .unset, .unset, .unset, .unset, .unset, .unset, .unset, .unset, .unset, .unset, .unset, .unset, .unset, .unset, .unset, .unset, .unset, .unset, .unset, .unset]) rfl ?_
    refine own_new K own_d11_206 (own_w30 hw) (own_w31 hw) (own_w32 hw) H96 (own_DP_F hw) (own_DP_P hw) (by decide) (by decide) ?_
    intro h97 a99 H98
    replace H98 : own_H Z h97 (own_DP a99 .null .null (.int (0 : Int32)) :: own_CN (aa 5) (.double (FP.i2d (za 5))) .null (.int (0 : Int32)) (.int (1 : Int32)) :: own_CN (aa 4) (.double (FP.i2d (za 4))) .null (.int (0 : Int32)) (.int (1 : Int32)) :: own_CN (aa 3) (.double (FP.i2d (za 3))) .null (.int (0 : Int32)) (.int (1 : Int32)) :: own_CN (aa 2) (.double (FP.i2d (za 2))) .null (.int (0 : Int32)) (.int (1 : Int32)) :: own_CN (aa 1) (.double (FP.i2d (za 1))) .null (.int (0 : Int32)) (.int (1 : Int32)) :: own_CN (aa 0) (.double (FP.i2d (za 0))) .null (.int (0 : Int32)) (.int (1 : Int32)) :: []) ((a42, (.object "com/example/slotwise/slotwise/Simulation$Connection"), "[Lcom/example/slotwise/slotwise/Simulation$Connection;", [(.ref (aa 0)), (.ref (aa 1)), (.ref (aa 2)), (.ref (aa 3)), (.ref (aa 4)), (.ref (aa 5))]) :: (a3, .int, "[I", [(.int (za 0)), (.int (za 1)), (.int (za 2)), (.int (za 3)), (.int (za 4)), (.int (za 5))]) :: []) := H98
    refine own_dup K own_d11_209 rfl ?_
    refine own_special K own_d11_210 rfl (own_w33 hw) (own_w34 hw) (own_w32 hw) (own_w35 hw) (a := a99) (argsL := []) (rest := [(.ref a99)]) (own_di hw H98) own_pd1 rfl rfl rfl (by decide) (W := 1) (Nat.le_of_eq rfl) (by decide) (by decide) (by decide) (by decide) ?_
    intro v102 h100 q101
    obtain ⟨rfl, ta104, ca105, H103⟩ := q101
    replace H103 : own_H Z h100 (own_DP a99 (.ref ta104) (.ref ca105) (.int (0 : Int32)) :: own_CN (aa 5) (.double (FP.i2d (za 5))) .null (.int (0 : Int32)) (.int (1 : Int32)) :: own_CN (aa 4) (.double (FP.i2d (za 4))) .null (.int (0 : Int32)) (.int (1 : Int32)) :: own_CN (aa 3) (.double (FP.i2d (za 3))) .null (.int (0 : Int32)) (.int (1 : Int32)) :: own_CN (aa 2) (.double (FP.i2d (za 2))) .null (.int (0 : Int32)) (.int (1 : Int32)) :: own_CN (aa 1) (.double (FP.i2d (za 1))) .null (.int (0 : Int32)) (.int (1 : Int32)) :: own_CN (aa 0) (.double (FP.i2d (za 0))) .null (.int (0 : Int32)) (.int (1 : Int32)) :: []) ((ta104, .double, "[D", ((.double (0 : UInt64)) :: (.double (0 : UInt64)) :: (.double (0 : UInt64)) :: (.double (0 : UInt64)) :: (.double (0 : UInt64)) :: (.double (0 : UInt64)) :: (List.replicate 58 (.double (0 : UInt64))))) :: (ca105, (.object "com/example/slotwise/slotwise/Simulation$Connection"), "[Lcom/example/slotwise/slotwise/Simulation$Connection;", (.null :: .null :: .null :: .null :: .null :: .null :: (List.replicate 58 .null))) :: (a42, (.object "com/example/slotwise/slotwise/Simulation$Connection"), "[Lcom/example/slotwise/slotwise/Simulation$Connection;", [(.ref (aa 0)), (.ref (aa 1)), (.ref (aa 2)), (.ref (aa 3)), (.ref (aa 4)), (.ref (aa 5))]) :: (a3, .int, "[I", [(.int (za 0)), (.int (za 1)), (.int (za 2)), (.int (za 3)), (.int (za 4)), (.int (za 5))]) :: []) := H103
    refine own_astore K own_d11_213 rfl (Ls' := #[.val (.long pk), .second, .val (.int mo), .val (.ref a3), .val (.ref a42), .val (.int (2 : Int32)), .val (.int (3 : Int32)), .val (.ref a99), .unset, .unset, .unset, .unset, .unset, .unset, .unset, .unset, .unset, .unset, .unset, .unset, .unset, .unset, .unset, .unset, .unset, .unset, .unset]) rfl ?_
    refine own_aload K own_d11_215 rfl rfl ?_
    refine own_aload K own_d11_217 rfl rfl ?_
    refine own_iconst K own_d11_219 (v := (0 : Int32)) rfl ?_
    refine own_aaload K own_d11_220 H103 (i := 2) rfl rfl (q := 0) (by decide) (rfl) ?_
    refine own_virtual K own_d11_221 (own_w43 hw) (own_w44 hw) (own_w46 hw) (own_w45 hw) (own_w32 hw) (own_w47 hw) (H103.atO (i := 0) rfl) (a := a99) (argsL := [(.ref (aa 0))]) (rest := []) (own_add0 hw (j := 0) (by rfl) H103 ho (by decide)  ) own_pd5 rfl rfl rfl (by decide) (W := 0) (Nat.le_of_eq rfl) (by decide) (by decide) (by decide) (by decide) ?_
    intro v108 h106 q107
    obtain ⟨rfl, k109, pm110, ltk109, H111⟩ := q107
    have PM112 : List.Perm [k109] [0] := ((List.Perm.append_left [] pm110).trans List.perm_middle).trans (List.Perm.cons 0 (List.Perm.nil : List.Perm ([] : List Nat) []))
    replace H111 : own_H Z h106 (own_DP a99 (.ref ta104) (.ref ca105) (.int (1 : Int32)) :: own_CN (aa 5) (.double (FP.i2d (za 5))) .null (.int (0 : Int32)) (.int (1 : Int32)) :: own_CN (aa 4) (.double (FP.i2d (za 4))) .null (.int (0 : Int32)) (.int (1 : Int32)) :: own_CN (aa 3) (.double (FP.i2d (za 3))) .null (.int (0 : Int32)) (.int (1 : Int32)) :: own_CN (aa 2) (.double (FP.i2d (za 2))) .null (.int (0 : Int32)) (.int (1 : Int32)) :: own_CN (aa 1) (.double (FP.i2d (za 1))) .null (.int (0 : Int32)) (.int (1 : Int32)) :: own_CN (aa 0) (.double (FP.i2d (za 0))) .null (.int (0 : Int32)) (.int (1 : Int32)) :: []) ((ta104, .double, "[D", ((.double (FP.i2d (za k109))) :: (.double (0 : UInt64)) :: (.double (0 : UInt64)) :: (.double (0 : UInt64)) :: (.double (0 : UInt64)) :: (.double (0 : UInt64)) :: (List.replicate 58 (.double (0 : UInt64))))) :: (ca105, (.object "com/example/slotwise/slotwise/Simulation$Connection"), "[Lcom/example/slotwise/slotwise/Simulation$Connection;", ((.ref (aa k109)) :: .null :: .null :: .null :: .null :: .null :: (List.replicate 58 .null))) :: (a42, (.object "com/example/slotwise/slotwise/Simulation$Connection"), "[Lcom/example/slotwise/slotwise/Simulation$Connection;", [(.ref (aa 0)), (.ref (aa 1)), (.ref (aa 2)), (.ref (aa 3)), (.ref (aa 4)), (.ref (aa 5))]) :: (a3, .int, "[I", [(.int (za 0)), (.int (za 1)), (.int (za 2)), (.int (za 3)), (.int (za 4)), (.int (za 5))]) :: []) := H111
    refine own_iload K own_d11_224 rfl ?_
    refine own_iconst K own_d11_226 (v := (1 : Int32)) rfl ?_
    refine own_icmple K own_d11_227 (fun q => absurd q (by decide)) (fun _ => ?_)
    refine own_aload K own_d11_230 rfl rfl ?_
    refine own_aload K own_d11_232 rfl rfl ?_
    refine own_iconst K own_d11_234 (v := (1 : Int32)) rfl ?_
    refine own_aaload K own_d11_235 H111 (i := 2) rfl rfl (q := 1) (by decide) (rfl) ?_
    refine own_virtual K own_d11_236 (own_w43 hw) (own_w44 hw) (own_w46 hw) (own_w45 hw) (own_w32 hw) (own_w47 hw) (H111.atO (i := 0) rfl) (a := a99) (argsL := [(.ref (aa 1))]) (rest := []) (own_add1 hw (j := 1) (by rfl) H111 ho (by decide) ltk109 ) own_pd5 rfl rfl rfl (by decide) (W := 0) (Nat.le_of_eq rfl) (by decide) (by decide) (by decide) (by decide) ?_
    intro v115 h113 q114
    obtain ⟨rfl, k116, k117, pm118, hp120, ltk116, ltk117, H119⟩ := q114
    have PM121 : List.Perm [k116, k117] [1, 0] := ((List.Perm.append_left [] pm118).trans List.perm_middle).trans (List.Perm.cons 1 PM112)
    replace H119 : own_H Z h113 (own_DP a99 (.ref ta104) (.ref ca105) (.int (2 : Int32)) :: own_CN (aa 5) (.double (FP.i2d (za 5))) .null (.int (0 : Int32)) (.int (1 : Int32)) :: own_CN (aa 4) (.double (FP.i2d (za 4))) .null (.int (0 : Int32)) (.int (1 : Int32)) :: own_CN (aa 3) (.double (FP.i2d (za 3))) .null (.int (0 : Int32)) (.int (1 : Int32)) :: own_CN (aa 2) (.double (FP.i2d (za 2))) .null (.int (0 : Int32)) (.int (1 : Int32)) :: own_CN (aa 1) (.double (FP.i2d (za 1))) .null (.int (0 : Int32)) (.int (1 : Int32)) :: own_CN (aa 0) (.double (FP.i2d (za 0))) .null (.int (0 : Int32)) (.int (1 : Int32)) :: []) ((ta104, .double, "[D", ((.double (FP.i2d (za k116))) :: (.double (FP.i2d (za k117))) :: (.double (0 : UInt64)) :: (.double (0 : UInt64)) :: (.double (0 : UInt64)) :: (.double (0 : UInt64)) :: (List.replicate 58 (.double (0 : UInt64))))) :: (ca105, (.object "com/example/slotwise/slotwise/Simulation$Connection"), "[Lcom/example/slotwise/slotwise/Simulation$Connection;", ((.ref (aa k116)) :: (.ref (aa k117)) :: .null :: .null :: .null :: .null :: (List.replicate 58 .null))) :: (a42, (.object "com/example/slotwise/slotwise/Simulation$Connection"), "[Lcom/example/slotwise/slotwise/Simulation$Connection;", [(.ref (aa 0)), (.ref (aa 1)), (.ref (aa 2)), (.ref (aa 3)), (.ref (aa 4)), (.ref (aa 5))]) :: (a3, .int, "[I", [(.int (za 0)), (.int (za 1)), (.int (za 2)), (.int (za 3)), (.int (za 4)), (.int (za 5))]) :: []) := H119
    refine own_iload K own_d11_239 rfl ?_
    refine own_iconst K own_d11_241 (v := (2 : Int32)) rfl ?_
    refine own_icmple K own_d11_242 (fun q => absurd q (by decide)) (fun _ => ?_)
    refine own_aload K own_d11_245 rfl rfl ?_
    refine own_aload K own_d11_247 rfl rfl ?_
    refine own_iconst K own_d11_249 (v := (2 : Int32)) rfl ?_
    refine own_aaload K own_d11_250 H119 (i := 2) rfl rfl (q := 2) (by decide) (rfl) ?_
    refine own_virtual K own_d11_251 (own_w43 hw) (own_w44 hw) (own_w46 hw) (own_w45 hw) (own_w32 hw) (own_w47 hw) (H119.atO (i := 0) rfl) (a := a99) (argsL := [(.ref (aa 2))]) (rest := []) (own_add2 hw (j := 2) (by rfl) H119 ho (by decide) ltk116 ltk117 hp120) own_pd5 rfl rfl rfl (by decide) (W := 0) (Nat.le_of_eq rfl) (by decide) (by decide) (by decide) (by decide) ?_
    intro v124 h122 q123
    obtain ⟨rfl, k125, k126, k127, pm128, hp130, hp131, ltk125, ltk126, ltk127, H129⟩ := q123
    have PM132 : List.Perm [k125, k126, k127] [2, 1, 0] := ((List.Perm.append_left [] pm128).trans List.perm_middle).trans (List.Perm.cons 2 PM121)
    replace H129 : own_H Z h122 (own_DP a99 (.ref ta104) (.ref ca105) (.int (3 : Int32)) :: own_CN (aa 5) (.double (FP.i2d (za 5))) .null (.int (0 : Int32)) (.int (1 : Int32)) :: own_CN (aa 4) (.double (FP.i2d (za 4))) .null (.int (0 : Int32)) (.int (1 : Int32)) :: own_CN (aa 3) (.double (FP.i2d (za 3))) .null (.int (0 : Int32)) (.int (1 : Int32)) :: own_CN (aa 2) (.double (FP.i2d (za 2))) .null (.int (0 : Int32)) (.int (1 : Int32)) :: own_CN (aa 1) (.double (FP.i2d (za 1))) .null (.int (0 : Int32)) (.int (1 : Int32)) :: own_CN (aa 0) (.double (FP.i2d (za 0))) .null (.int (0 : Int32)) (.int (1 : Int32)) :: []) ((ta104, .double, "[D", ((.double (FP.i2d (za k125))) :: (.double (FP.i2d (za k126))) :: (.double (FP.i2d (za k127))) :: (.double (0 : UInt64)) :: (.double (0 : UInt64)) :: (.double (0 : UInt64)) :: (List.replicate 58 (.double (0 : UInt64))))) :: (ca105, (.object "com/example/slotwise/slotwise/Simulation$Connection"), "[Lcom/example/slotwise/slotwise/Simulation$Connection;", ((.ref (aa k125)) :: (.ref (aa k126)) :: (.ref (aa k127)) :: .null :: .null :: .null :: (List.replicate 58 .null))) :: (a42, (.object "com/example/slotwise/slotwise/Simulation$Connection"), "[Lcom/example/slotwise/slotwise/Simulation$Connection;", [(.ref (aa 0)), (.ref (aa 1)), (.ref (aa 2)), (.ref (aa 3)), (.ref (aa 4)), (.ref (aa 5))]) :: (a3, .int, "[I", [(.int (za 0)), (.int (za 1)), (.int (za 2)), (.int (za 3)), (.int (za 4)), (.int (za 5))]) :: []) := H129
    refine own_iload K own_d11_254 rfl ?_
    refine own_iconst K own_d11_256 (v := (3 : Int32)) rfl ?_
    refine own_icmple K own_d11_257 (fun _ => ?_) (fun q => absurd (by decide) q)
    refine own_iload K own_d11_269 rfl ?_
    refine own_iconst K own_d11_271 (v := (4 : Int32)) rfl ?_
    refine own_icmple K own_d11_272 (fun _ => ?_) (fun q => absurd (by decide) q)
    refine own_iload K own_d11_284 rfl ?_
    refine own_iconst K own_d11_286 (v := (5 : Int32)) rfl ?_
    refine own_icmple K own_d11_287 (fun _ => ?_) (fun q => absurd (by decide) q)
    refine own_aload K own_d11_299 rfl rfl ?_
    have q1b : k125 < 3 := by have hm := PM132.mem_iff.mp (List.mem_cons_self (a := k125)); simp only [List.mem_cons, List.not_mem_nil, or_false] at hm; omega
    have RM : ∀ i, i < 3 → (za k125).toInt ≤ (za i).toInt := by intro i hi; have hm : i ∈ [k125, k126, k127] := PM132.mem_iff.mpr (by simp only [List.mem_cons, List.not_mem_nil, or_false]; omega); simp only [List.mem_cons, List.not_mem_nil, or_false] at hm; rcases hm with q' | q' | q' <;> rw [q'] <;> omega
    refine own_virtual K own_d11_301 (own_w55 hw) (own_w56 hw) (own_w58 hw) (own_w57 hw) (own_w32 hw) (own_w59 hw) (H129.atO (i := 0) rfl) (a := a99) (argsL := []) (rest := []) (own_poll3 hw H129 ho ltk125 ltk126 ltk127 hp130 hp131) own_pd6 rfl rfl rfl (by decide) (W := 0) (Nat.le_of_eq rfl) (by decide) (by decide) (by decide) (by decide) ?_
    intro v135 h133 q134
    obtain ⟨rfl, k136, k137, pm138, hp140, le141, ltk136, ltk137, H139⟩ := q134
    have PM142 : List.Perm [k125, k136, k137] [2, 1, 0] := (List.Perm.append_left [] (List.Perm.cons k125 pm138)).trans PM132
    replace H139 : own_H Z h133 (own_DP a99 (.ref ta104) (.ref ca105) (.int (2 : Int32)) :: own_CN (aa 5) (.double (FP.i2d (za 5))) .null (.int (0 : Int32)) (.int (1 : Int32)) :: own_CN (aa 4) (.double (FP.i2d (za 4))) .null (.int (0 : Int32)) (.int (1 : Int32)) :: own_CN (aa 3) (.double (FP.i2d (za 3))) .null (.int (0 : Int32)) (.int (1 : Int32)) :: own_CN (aa 2) (.double (FP.i2d (za 2))) .null (.int (0 : Int32)) (.int (1 : Int32)) :: own_CN (aa 1) (.double (FP.i2d (za 1))) .null (.int (0 : Int32)) (.int (1 : Int32)) :: own_CN (aa 0) (.double (FP.i2d (za 0))) .null (.int (0 : Int32)) (.int (1 : Int32)) :: []) ((ta104, .double, "[D", ((.double (FP.i2d (za k136))) :: (.double (FP.i2d (za k137))) :: (.double (FP.i2d (za k127))) :: (.double (0 : UInt64)) :: (.double (0 : UInt64)) :: (.double (0 : UInt64)) :: (List.replicate 58 (.double (0 : UInt64))))) :: (ca105, (.object "com/example/slotwise/slotwise/Simulation$Connection"), "[Lcom/example/slotwise/slotwise/Simulation$Connection;", ((.ref (aa k136)) :: (.ref (aa k137)) :: .null :: .null :: .null :: .null :: (List.replicate 58 .null))) :: (a42, (.object "com/example/slotwise/slotwise/Simulation$Connection"), "[Lcom/example/slotwise/slotwise/Simulation$Connection;", [(.ref (aa 0)), (.ref (aa 1)), (.ref (aa 2)), (.ref (aa 3)), (.ref (aa 4)), (.ref (aa 5))]) :: (a3, .int, "[I", [(.int (za 0)), (.int (za 1)), (.int (za 2)), (.int (za 3)), (.int (za 4)), (.int (za 5))]) :: []) := H139
    refine own_astore K own_d11_304 rfl (Ls' := #[.val (.long pk), .second, .val (.int mo), .val (.ref a3), .val (.ref a42), .val (.int (2 : Int32)), .val (.int (3 : Int32)), .val (.ref a99), .val (.ref (aa k125)), .unset, .unset, .unset, .unset, .unset, .unset, .unset, .unset, .unset, .unset, .unset, .unset, .unset, .unset, .unset, .unset, .unset, .unset]) rfl ?_
    refine own_iload K own_d11_306 rfl ?_
    refine own_iconst K own_d11_308 (v := (1 : Int32)) rfl ?_
    refine own_icmpgt K own_d11_309 (fun _ => ?_) (fun q => absurd (by decide) q)
    refine own_iload K own_d11_321 rfl ?_
    refine own_iconst K own_d11_323 (v := (2 : Int32)) rfl ?_
    refine own_icmpgt K own_d11_324 (fun _ => ?_) (fun q => absurd (by decide) q)
    refine own_iload K own_d11_336 rfl ?_
    refine own_iconst K own_d11_338 (v := (3 : Int32)) rfl ?_
    refine own_icmpgt K own_d11_339 (fun q => absurd q (by decide)) (fun _ => ?_)
    refine own_aload K own_d11_342 rfl rfl ?_
    refine own_aload K own_d11_344 rfl rfl ?_
    refine own_iconst K own_d11_346 (v := (3 : Int32)) rfl ?_
    refine own_aaload K own_d11_347 H139 (i := 2) rfl rfl (q := 3) (by decide) (rfl) ?_
    refine own_virtual K own_d11_348 (own_w43 hw) (own_w44 hw) (own_w46 hw) (own_w45 hw) (own_w32 hw) (own_w47 hw) (H139.atO (i := 0) rfl) (a := a99) (argsL := [(.ref (aa 3))]) (rest := []) (own_add2 hw (j := 3) (by rfl) H139 ho (by decide) ltk136 ltk137 hp140) own_pd5 rfl rfl rfl (by decide) (W := 0) (Nat.le_of_eq rfl) (by decide) (by decide) (by decide) (by decide) ?_
    intro v145 h143 q144
    obtain ⟨rfl, k146, k147, k148, pm149, hp151, hp152, ltk146, ltk147, ltk148, H150⟩ := q144
    have PM153 : List.Perm [k125, k146, k147, k148] [3, 2, 1, 0] := ((List.Perm.append_left [k125] pm149).trans List.perm_middle).trans (List.Perm.cons 3 PM142)
    replace H150 : own_H Z h143 (own_DP a99 (.ref ta104) (.ref ca105) (.int (3 : Int32)) :: own_CN (aa 5) (.double (FP.i2d (za 5))) .null (.int (0 : Int32)) (.int (1 : Int32)) :: own_CN (aa 4) (.double (FP.i2d (za 4))) .null (.int (0 : Int32)) (.int (1 : Int32)) :: own_CN (aa 3) (.double (FP.i2d (za 3))) .null (.int (0 : Int32)) (.int (1 : Int32)) :: own_CN (aa 2) (.double (FP.i2d (za 2))) .null (.int (0 : Int32)) (.int (1 : Int32)) :: own_CN (aa 1) (.double (FP.i2d (za 1))) .null (.int (0 : Int32)) (.int (1 : Int32)) :: own_CN (aa 0) (.double (FP.i2d (za 0))) .null (.int (0 : Int32)) (.int (1 : Int32)) :: []) ((ta104, .double, "[D", ((.double (FP.i2d (za k146))) :: (.double (FP.i2d (za k147))) :: (.double (FP.i2d (za k148))) :: (.double (0 : UInt64)) :: (.double (0 : UInt64)) :: (.double (0 : UInt64)) :: (List.replicate 58 (.double (0 : UInt64))))) :: (ca105, (.object "com/example/slotwise/slotwise/Simulation$Connection"), "[Lcom/example/slotwise/slotwise/Simulation$Connection;", ((.ref (aa k146)) :: (.ref (aa k147)) :: (.ref (aa k148)) :: .null :: .null :: .null :: (List.replicate 58 .null))) :: (a42, (.object "com/example/slotwise/slotwise/Simulation$Connection"), "[Lcom/example/slotwise/slotwise/Simulation$Connection;", [(.ref (aa 0)), (.ref (aa 1)), (.ref (aa 2)), (.ref (aa 3)), (.ref (aa 4)), (.ref (aa 5))]) :: (a3, .int, "[I", [(.int (za 0)), (.int (za 1)), (.int (za 2)), (.int (za 3)), (.int (za 4)), (.int (za 5))]) :: []) := H150
    refine own_iload K own_d11_351 rfl ?_
    refine own_iconst K own_d11_353 (v := (4 : Int32)) rfl ?_
    refine own_icmpgt K own_d11_354 (fun q => absurd q (by decide)) (fun _ => ?_)
    refine own_aload K own_d11_357 rfl rfl ?_
    refine own_aload K own_d11_359 rfl rfl ?_
    refine own_iconst K own_d11_361 (v := (4 : Int32)) rfl ?_
    refine own_aaload K own_d11_362 H150 (i := 2) rfl rfl (q := 4) (by decide) (rfl) ?_
    refine own_virtual K own_d11_363 (own_w43 hw) (own_w44 hw) (own_w46 hw) (own_w45 hw) (own_w32 hw) (own_w47 hw) (H150.atO (i := 0) rfl) (a := a99) (argsL := [(.ref (aa 4))]) (rest := []) (own_add3 hw (j := 4) (by rfl) H150 ho (by decide) ltk146 ltk147 ltk148 hp151 hp152) own_pd5 rfl rfl rfl (by decide) (W := 0) (Nat.le_of_eq rfl) (by decide) (by decide) (by decide) (by decide) ?_
    intro v156 h154 q155
    obtain ⟨rfl, k157, k158, k159, k160, pm161, hp163, hp164, hp165, ltk157, ltk158, ltk159, ltk160, H162⟩ := q155
    have PM166 : List.Perm [k125, k157, k158, k159, k160] [4, 3, 2, 1, 0] := ((List.Perm.append_left [k125] pm161).trans List.perm_middle).trans (List.Perm.cons 4 PM153)
    replace H162 : own_H Z h154 (own_DP a99 (.ref ta104) (.ref ca105) (.int (4 : Int32)) :: own_CN (aa 5) (.double (FP.i2d (za 5))) .null (.int (0 : Int32)) (.int (1 : Int32)) :: own_CN (aa 4) (.double (FP.i2d (za 4))) .null (.int (0 : Int32)) (.int (1 : Int32)) :: own_CN (aa 3) (.double (FP.i2d (za 3))) .null (.int (0 : Int32)) (.int (1 : Int32)) :: own_CN (aa 2) (.double (FP.i2d (za 2))) .null (.int (0 : Int32)) (.int (1 : Int32)) :: own_CN (aa 1) (.double (FP.i2d (za 1))) .null (.int (0 : Int32)) (.int (1 : Int32)) :: own_CN (aa 0) (.double (FP.i2d (za 0))) .null (.int (0 : Int32)) (.int (1 : Int32)) :: []) ((ta104, .double, "[D", ((.double (FP.i2d (za k157))) :: (.double (FP.i2d (za k158))) :: (.double (FP.i2d (za k159))) :: (.double (FP.i2d (za k160))) :: (.double (0 : UInt64)) :: (.double (0 : UInt64)) :: (List.replicate 58 (.double (0 : UInt64))))) :: (ca105, (.object "com/example/slotwise/slotwise/Simulation$Connection"), "[Lcom/example/slotwise/slotwise/Simulation$Connection;", ((.ref (aa k157)) :: (.ref (aa k158)) :: (.ref (aa k159)) :: (.ref (aa k160)) :: .null :: .null :: (List.replicate 58 .null))) :: (a42, (.object "com/example/slotwise/slotwise/Simulation$Connection"), "[Lcom/example/slotwise/slotwise/Simulation$Connection;", [(.ref (aa 0)), (.ref (aa 1)), (.ref (aa 2)), (.ref (aa 3)), (.ref (aa 4)), (.ref (aa 5))]) :: (a3, .int, "[I", [(.int (za 0)), (.int (za 1)), (.int (za 2)), (.int (za 3)), (.int (za 4)), (.int (za 5))]) :: []) := H162
    refine own_iload K own_d11_366 rfl ?_
    refine own_iconst K own_d11_368 (v := (5 : Int32)) rfl ?_
    refine own_icmpgt K own_d11_369 (fun q => absurd q (by decide)) (fun _ => ?_)
    refine own_aload K own_d11_372 rfl rfl ?_
    refine own_aload K own_d11_374 rfl rfl ?_
    refine own_iconst K own_d11_376 (v := (5 : Int32)) rfl ?_
    refine own_aaload K own_d11_377 H162 (i := 2) rfl rfl (q := 5) (by decide) (rfl) ?_
    refine own_virtual K own_d11_378 (own_w43 hw) (own_w44 hw) (own_w46 hw) (own_w45 hw) (own_w32 hw) (own_w47 hw) (H162.atO (i := 0) rfl) (a := a99) (argsL := [(.ref (aa 5))]) (rest := []) (own_add4 hw (j := 5) (by rfl) H162 ho (by decide) ltk157 ltk158 ltk159 ltk160 hp163 hp164 hp165) own_pd5 rfl rfl rfl (by decide) (W := 0) (Nat.le_of_eq rfl) (by decide) (by decide) (by decide) (by decide) ?_
    intro v169 h167 q168
    obtain ⟨rfl, k170, k171, k172, k173, k174, pm175, hp177, hp178, hp179, hp180, ltk170, ltk171, ltk172, ltk173, ltk174, H176⟩ := q168
    have PM181 : List.Perm [k125, k170, k171, k172, k173, k174] [5, 4, 3, 2, 1, 0] := ((List.Perm.append_left [k125] pm175).trans List.perm_middle).trans (List.Perm.cons 5 PM166)
    replace H176 : own_H Z h167 (own_DP a99 (.ref ta104) (.ref ca105) (.int (5 : Int32)) :: own_CN (aa 5) (.double (FP.i2d (za 5))) .null (.int (0 : Int32)) (.int (1 : Int32)) :: own_CN (aa 4) (.double (FP.i2d (za 4))) .null (.int (0 : Int32)) (.int (1 : Int32)) :: own_CN (aa 3) (.double (FP.i2d (za 3))) .null (.int (0 : Int32)) (.int (1 : Int32)) :: own_CN (aa 2) (.double (FP.i2d (za 2))) .null (.int (0 : Int32)) (.int (1 : Int32)) :: own_CN (aa 1) (.double (FP.i2d (za 1))) .null (.int (0 : Int32)) (.int (1 : Int32)) :: own_CN (aa 0) (.double (FP.i2d (za 0))) .null (.int (0 : Int32)) (.int (1 : Int32)) :: []) ((ta104, .double, "[D", ((.double (FP.i2d (za k170))) :: (.double (FP.i2d (za k171))) :: (.double (FP.i2d (za k172))) :: (.double (FP.i2d (za k173))) :: (.double (FP.i2d (za k174))) :: (.double (0 : UInt64)) :: (List.replicate 58 (.double (0 : UInt64))))) :: (ca105, (.object "com/example/slotwise/slotwise/Simulation$Connection"), "[Lcom/example/slotwise/slotwise/Simulation$Connection;", ((.ref (aa k170)) :: (.ref (aa k171)) :: (.ref (aa k172)) :: (.ref (aa k173)) :: (.ref (aa k174)) :: .null :: (List.replicate 58 .null))) :: (a42, (.object "com/example/slotwise/slotwise/Simulation$Connection"), "[Lcom/example/slotwise/slotwise/Simulation$Connection;", [(.ref (aa 0)), (.ref (aa 1)), (.ref (aa 2)), (.ref (aa 3)), (.ref (aa 4)), (.ref (aa 5))]) :: (a3, .int, "[I", [(.int (za 0)), (.int (za 1)), (.int (za 2)), (.int (za 3)), (.int (za 4)), (.int (za 5))]) :: []) := H176
    refine own_aload K own_d11_381 rfl rfl ?_
    refine own_virtual K own_d11_383 (own_w55 hw) (own_w56 hw) (own_w58 hw) (own_w57 hw) (own_w32 hw) (own_w59 hw) (H176.atO (i := 0) rfl) (a := a99) (argsL := []) (rest := []) (own_poll5 hw H176 ho ltk170 ltk171 ltk172 ltk173 ltk174 hp177 hp178 hp179 hp180) own_pd6 rfl rfl rfl (by decide) (W := 0) (Nat.le_of_eq rfl) (by decide) (by decide) (by decide) (by decide) ?_
    intro v184 h182 q183
    obtain ⟨rfl, k185, k186, k187, k188, pm189, hp191, hp192, hp193, le194, ltk185, ltk186, ltk187, ltk188, H190⟩ := q183
    have PM195 : List.Perm [k125, k170, k185, k186, k187, k188] [5, 4, 3, 2, 1, 0] := (List.Perm.append_left [k125] (List.Perm.cons k170 pm189)).trans PM181
    replace H190 : own_H Z h182 (own_DP a99 (.ref ta104) (.ref ca105) (.int (4 : Int32)) :: own_CN (aa 5) (.double (FP.i2d (za 5))) .null (.int (0 : Int32)) (.int (1 : Int32)) :: own_CN (aa 4) (.double (FP.i2d (za 4))) .null (.int (0 : Int32)) (.int (1 : Int32)) :: own_CN (aa 3) (.double (FP.i2d (za 3))) .null (.int (0 : Int32)) (.int (1 : Int32)) :: own_CN (aa 2) (.double (FP.i2d (za 2))) .null (.int (0 : Int32)) (.int (1 : Int32)) :: own_CN (aa 1) (.double (FP.i2d (za 1))) .null (.int (0 : Int32)) (.int (1 : Int32)) :: own_CN (aa 0) (.double (FP.i2d (za 0))) .null (.int (0 : Int32)) (.int (1 : Int32)) :: []) ((ta104, .double, "[D", ((.double (FP.i2d (za k185))) :: (.double (FP.i2d (za k186))) :: (.double (FP.i2d (za k187))) :: (.double (FP.i2d (za k188))) :: (.double (FP.i2d (za k174))) :: (.double (0 : UInt64)) :: (List.replicate 58 (.double (0 : UInt64))))) :: (ca105, (.object "com/example/slotwise/slotwise/Simulation$Connection"), "[Lcom/example/slotwise/slotwise/Simulation$Connection;", ((.ref (aa k185)) :: (.ref (aa k186)) :: (.ref (aa k187)) :: (.ref (aa k188)) :: .null :: .null :: (List.replicate 58 .null))) :: (a42, (.object "com/example/slotwise/slotwise/Simulation$Connection"), "[Lcom/example/slotwise/slotwise/Simulation$Connection;", [(.ref (aa 0)), (.ref (aa 1)), (.ref (aa 2)), (.ref (aa 3)), (.ref (aa 4)), (.ref (aa 5))]) :: (a3, .int, "[I", [(.int (za 0)), (.int (za 1)), (.int (za 2)), (.int (za 3)), (.int (za 4)), (.int (za 5))]) :: []) := H190
    refine own_astore K own_d11_386 rfl (Ls' := #[.val (.long pk), .second, .val (.int mo), .val (.ref a3), .val (.ref a42), .val (.int (2 : Int32)), .val (.int (3 : Int32)), .val (.ref a99), .val (.ref (aa k125)), .val (.ref (aa k170)), .unset, .unset, .unset, .unset, .unset, .unset, .unset, .unset, .unset, .unset, .unset, .unset, .unset, .unset, .unset, .unset, .unset]) rfl ?_
    refine own_aload K own_d11_388 rfl rfl ?_
    refine own_virtual K own_d11_390 (own_w55 hw) (own_w56 hw) (own_w58 hw) (own_w57 hw) (own_w32 hw) (own_w59 hw) (H190.atO (i := 0) rfl) (a := a99) (argsL := []) (rest := []) (own_poll4 hw H190 ho ltk185 ltk186 ltk187 ltk188 hp191 hp192 hp193) own_pd6 rfl rfl rfl (by decide) (W := 0) (Nat.le_of_eq rfl) (by decide) (by decide) (by decide) (by decide) ?_
    intro v198 h196 q197
    obtain ⟨rfl, k199, k200, k201, pm202, hp204, hp205, le206, ltk199, ltk200, ltk201, H203⟩ := q197
    have PM207 : List.Perm [k125, k170, k185, k199, k200, k201] [5, 4, 3, 2, 1, 0] := (List.Perm.append_left [k125, k170] (List.Perm.cons k185 pm202)).trans PM195
    replace H203 : own_H Z h196 (own_DP a99 (.ref ta104) (.ref ca105) (.int (3 : Int32)) :: own_CN (aa 5) (.double (FP.i2d (za 5))) .null (.int (0 : Int32)) (.int (1 : Int32)) :: own_CN (aa 4) (.double (FP.i2d (za 4))) .null (.int (0 : Int32)) (.int (1 : Int32)) :: own_CN (aa 3) (.double (FP.i2d (za 3))) .null (.int (0 : Int32)) (.int (1 : Int32)) :: own_CN (aa 2) (.double (FP.i2d (za 2))) .null (.int (0 : Int32)) (.int (1 : Int32)) :: own_CN (aa 1) (.double (FP.i2d (za 1))) .null (.int (0 : Int32)) (.int (1 : Int32)) :: own_CN (aa 0) (.double (FP.i2d (za 0))) .null (.int (0 : Int32)) (.int (1 : Int32)) :: []) ((ta104, .double, "[D", ((.double (FP.i2d (za k199))) :: (.double (FP.i2d (za k200))) :: (.double (FP.i2d (za k201))) :: (.double (FP.i2d (za k188))) :: (.double (FP.i2d (za k174))) :: (.double (0 : UInt64)) :: (List.replicate 58 (.double (0 : UInt64))))) :: (ca105, (.object "com/example/slotwise/slotwise/Simulation$Connection"), "[Lcom/example/slotwise/slotwise/Simulation$Connection;", ((.ref (aa k199)) :: (.ref (aa k200)) :: (.ref (aa k201)) :: .null :: .null :: .null :: (List.replicate 58 .null))) :: (a42, (.object "com/example/slotwise/slotwise/Simulation$Connection"), "[Lcom/example/slotwise/slotwise/Simulation$Connection;", [(.ref (aa 0)), (.ref (aa 1)), (.ref (aa 2)), (.ref (aa 3)), (.ref (aa 4)), (.ref (aa 5))]) :: (a3, .int, "[I", [(.int (za 0)), (.int (za 1)), (.int (za 2)), (.int (za 3)), (.int (za 4)), (.int (za 5))]) :: []) := H203
    refine own_astore K own_d11_393 rfl (Ls' := #[.val (.long pk), .second, .val (.int mo), .val (.ref a3), .val (.ref a42), .val (.int (2 : Int32)), .val (.int (3 : Int32)), .val (.ref a99), .val (.ref (aa k125)), .val (.ref (aa k170)), .val (.ref (aa k185)), .unset, .unset, .unset, .unset, .unset, .unset, .unset, .unset, .unset, .unset, .unset, .unset, .unset, .unset, .unset, .unset]) rfl ?_
    refine own_aload K own_d11_395 rfl rfl ?_
    refine own_virtual K own_d11_397 (own_w55 hw) (own_w56 hw) (own_w58 hw) (own_w57 hw) (own_w32 hw) (own_w59 hw) (H203.atO (i := 0) rfl) (a := a99) (argsL := []) (rest := []) (own_poll3 hw H203 ho ltk199 ltk200 ltk201 hp204 hp205) own_pd6 rfl rfl rfl (by decide) (W := 0) (Nat.le_of_eq rfl) (by decide) (by decide) (by decide) (by decide) ?_
    intro v210 h208 q209
    obtain ⟨rfl, k211, k212, pm213, hp215, le216, ltk211, ltk212, H214⟩ := q209
    have PM217 : List.Perm [k125, k170, k185, k199, k211, k212] [5, 4, 3, 2, 1, 0] := (List.Perm.append_left [k125, k170, k185] (List.Perm.cons k199 pm213)).trans PM207
    replace H214 : own_H Z h208 (own_DP a99 (.ref ta104) (.ref ca105) (.int (2 : Int32)) :: own_CN (aa 5) (.double (FP.i2d (za 5))) .null (.int (0 : Int32)) (.int (1 : Int32)) :: own_CN (aa 4) (.double (FP.i2d (za 4))) .null (.int (0 : Int32)) (.int (1 : Int32)) :: own_CN (aa 3) (.double (FP.i2d (za 3))) .null (.int (0 : Int32)) (.int (1 : Int32)) :: own_CN (aa 2) (.double (FP.i2d (za 2))) .null (.int (0 : Int32)) (.int (1 : Int32)) :: own_CN (aa 1) (.double (FP.i2d (za 1))) .null (.int (0 : Int32)) (.int (1 : Int32)) :: own_CN (aa 0) (.double (FP.i2d (za 0))) .null (.int (0 : Int32)) (.int (1 : Int32)) :: []) ((ta104, .double, "[D", ((.double (FP.i2d (za k211))) :: (.double (FP.i2d (za k212))) :: (.double (FP.i2d (za k201))) :: (.double (FP.i2d (za k188))) :: (.double (FP.i2d (za k174))) :: (.double (0 : UInt64)) :: (List.replicate 58 (.double (0 : UInt64))))) :: (ca105, (.object "com/example/slotwise/slotwise/Simulation$Connection"), "[Lcom/example/slotwise/slotwise/Simulation$Connection;", ((.ref (aa k211)) :: (.ref (aa k212)) :: .null :: .null :: .null :: .null :: (List.replicate 58 .null))) :: (a42, (.object "com/example/slotwise/slotwise/Simulation$Connection"), "[Lcom/example/slotwise/slotwise/Simulation$Connection;", [(.ref (aa 0)), (.ref (aa 1)), (.ref (aa 2)), (.ref (aa 3)), (.ref (aa 4)), (.ref (aa 5))]) :: (a3, .int, "[I", [(.int (za 0)), (.int (za 1)), (.int (za 2)), (.int (za 3)), (.int (za 4)), (.int (za 5))]) :: []) := H214
    refine own_astore K own_d11_400 rfl (Ls' := #[.val (.long pk), .second, .val (.int mo), .val (.ref a3), .val (.ref a42), .val (.int (2 : Int32)), .val (.int (3 : Int32)), .val (.ref a99), .val (.ref (aa k125)), .val (.ref (aa k170)), .val (.ref (aa k185)), .val (.ref (aa k199)), .unset, .unset, .unset, .unset, .unset, .unset, .unset, .unset, .unset, .unset, .unset, .unset, .unset, .unset, .unset]) rfl ?_
    refine own_aload K own_d11_402 rfl rfl ?_
    refine own_virtual K own_d11_404 (own_w55 hw) (own_w56 hw) (own_w58 hw) (own_w57 hw) (own_w32 hw) (own_w59 hw) (H214.atO (i := 0) rfl) (a := a99) (argsL := []) (rest := []) (own_poll2 hw H214 ho ltk211 ltk212 hp215) own_pd6 rfl rfl rfl (by decide) (W := 0) (Nat.le_of_eq rfl) (by decide) (by decide) (by decide) (by decide) ?_
    intro v220 h218 q219
    obtain ⟨rfl, k221, pm222, le224, ltk221, H223⟩ := q219
    have PM225 : List.Perm [k125, k170, k185, k199, k211, k221] [5, 4, 3, 2, 1, 0] := (List.Perm.append_left [k125, k170, k185, k199] (List.Perm.cons k211 pm222)).trans PM217
    replace H223 : own_H Z h218 (own_DP a99 (.ref ta104) (.ref ca105) (.int (1 : Int32)) :: own_CN (aa 5) (.double (FP.i2d (za 5))) .null (.int (0 : Int32)) (.int (1 : Int32)) :: own_CN (aa 4) (.double (FP.i2d (za 4))) .null (.int (0 : Int32)) (.int (1 : Int32)) :: own_CN (aa 3) (.double (FP.i2d (za 3))) .null (.int (0 : Int32)) (.int (1 : Int32)) :: own_CN (aa 2) (.double (FP.i2d (za 2))) .null (.int (0 : Int32)) (.int (1 : Int32)) :: own_CN (aa 1) (.double (FP.i2d (za 1))) .null (.int (0 : Int32)) (.int (1 : Int32)) :: own_CN (aa 0) (.double (FP.i2d (za 0))) .null (.int (0 : Int32)) (.int (1 : Int32)) :: []) ((ta104, .double, "[D", ((.double (FP.i2d (za k221))) :: (.double (FP.i2d (za k212))) :: (.double (FP.i2d (za k201))) :: (.double (FP.i2d (za k188))) :: (.double (FP.i2d (za k174))) :: (.double (0 : UInt64)) :: (List.replicate 58 (.double (0 : UInt64))))) :: (ca105, (.object "com/example/slotwise/slotwise/Simulation$Connection"), "[Lcom/example/slotwise/slotwise/Simulation$Connection;", ((.ref (aa k221)) :: .null :: .null :: .null :: .null :: .null :: (List.replicate 58 .null))) :: (a42, (.object "com/example/slotwise/slotwise/Simulation$Connection"), "[Lcom/example/slotwise/slotwise/Simulation$Connection;", [(.ref (aa 0)), (.ref (aa 1)), (.ref (aa 2)), (.ref (aa 3)), (.ref (aa 4)), (.ref (aa 5))]) :: (a3, .int, "[I", [(.int (za 0)), (.int (za 1)), (.int (za 2)), (.int (za 3)), (.int (za 4)), (.int (za 5))]) :: []) := H223
    refine own_astore K own_d11_407 rfl (Ls' := #[.val (.long pk), .second, .val (.int mo), .val (.ref a3), .val (.ref a42), .val (.int (2 : Int32)), .val (.int (3 : Int32)), .val (.ref a99), .val (.ref (aa k125)), .val (.ref (aa k170)), .val (.ref (aa k185)), .val (.ref (aa k199)), .val (.ref (aa k211)), .unset, .unset, .unset, .unset, .unset, .unset, .unset, .unset, .unset, .unset, .unset, .unset, .unset, .unset]) rfl ?_
    refine own_aload K own_d11_409 rfl rfl ?_
    refine own_virtual K own_d11_411 (own_w55 hw) (own_w56 hw) (own_w58 hw) (own_w57 hw) (own_w32 hw) (own_w59 hw) (H223.atO (i := 0) rfl) (a := a99) (argsL := []) (rest := []) (own_poll1 hw H223 ho ltk221 ) own_pd6 rfl rfl rfl (by decide) (W := 0) (Nat.le_of_eq rfl) (by decide) (by decide) (by decide) (by decide) ?_
    intro v228 h226 q227
    obtain ⟨rfl, H230⟩ := q227
    have PM232 : List.Perm [k125, k170, k185, k199, k211, k221] [5, 4, 3, 2, 1, 0] := (List.Perm.append_left [k125, k170, k185, k199, k211] (List.Perm.cons k221 List.Perm.nil)).trans PM225
    replace H230 : own_H Z h226 (own_DP a99 (.ref ta104) (.ref ca105) (.int (0 : Int32)) :: own_CN (aa 5) (.double (FP.i2d (za 5))) .null (.int (0 : Int32)) (.int (1 : Int32)) :: own_CN (aa 4) (.double (FP.i2d (za 4))) .null (.int (0 : Int32)) (.int (1 : Int32)) :: own_CN (aa 3) (.double (FP.i2d (za 3))) .null (.int (0 : Int32)) (.int (1 : Int32)) :: own_CN (aa 2) (.double (FP.i2d (za 2))) .null (.int (0 : Int32)) (.int (1 : Int32)) :: own_CN (aa 1) (.double (FP.i2d (za 1))) .null (.int (0 : Int32)) (.int (1 : Int32)) :: own_CN (aa 0) (.double (FP.i2d (za 0))) .null (.int (0 : Int32)) (.int (1 : Int32)) :: []) ((ta104, .double, "[D", ((.double (FP.i2d (za k221))) :: (.double (FP.i2d (za k212))) :: (.double (FP.i2d (za k201))) :: (.double (FP.i2d (za k188))) :: (.double (FP.i2d (za k174))) :: (.double (0 : UInt64)) :: (List.replicate 58 (.double (0 : UInt64))))) :: (ca105, (.object "com/example/slotwise/slotwise/Simulation$Connection"), "[Lcom/example/slotwise/slotwise/Simulation$Connection;", (.null :: .null :: .null :: .null :: .null :: .null :: (List.replicate 58 .null))) :: (a42, (.object "com/example/slotwise/slotwise/Simulation$Connection"), "[Lcom/example/slotwise/slotwise/Simulation$Connection;", [(.ref (aa 0)), (.ref (aa 1)), (.ref (aa 2)), (.ref (aa 3)), (.ref (aa 4)), (.ref (aa 5))]) :: (a3, .int, "[I", [(.int (za 0)), (.int (za 1)), (.int (za 2)), (.int (za 3)), (.int (za 4)), (.int (za 5))]) :: []) := H230
    refine own_astore K own_d11_414 rfl (Ls' := #[.val (.long pk), .second, .val (.int mo), .val (.ref a3), .val (.ref a42), .val (.int (2 : Int32)), .val (.int (3 : Int32)), .val (.ref a99), .val (.ref (aa k125)), .val (.ref (aa k170)), .val (.ref (aa k185)), .val (.ref (aa k199)), .val (.ref (aa k211)), .val (.ref (aa k221)), .unset, .unset, .unset, .unset, .unset, .unset, .unset, .unset, .unset, .unset, .unset, .unset, .unset]) rfl ?_
    refine own_aload K own_d11_416 rfl rfl ?_
    refine own_virtual K own_d11_418 (own_w60 hw) (own_w61 hw) (own_w63 hw) (own_w62 hw) (own_w32 hw) (own_w64 hw) (H230.atO (i := 0) rfl) (a := a99) (argsL := []) (rest := []) (own_emp hw H230) own_pd7 rfl rfl rfl (by decide) (W := 0) (Nat.le_of_eq rfl) (by decide) (by decide) (by decide) (by decide) ?_
    intro v235 h233 q234
    obtain ⟨rfl, rfl⟩ := q234
    refine own_istore K own_d11_421 (Ls' := #[.val (.long pk), .second, .val (.int mo), .val (.ref a3), .val (.ref a42), .val (.int (2 : Int32)), .val (.int (3 : Int32)), .val (.ref a99), .val (.ref (aa k125)), .val (.ref (aa k170)), .val (.ref (aa k185)), .val (.ref (aa k199)), .val (.ref (aa k211)), .val (.ref (aa k221)), .val (.int (1 : Int32)), .unset, .unset, .unset, .unset, .unset, .unset, .unset, .unset, .unset, .unset, .unset, .unset]) rfl ?_
    refine own_aload K own_d11_423 rfl rfl ?_
    refine own_aload K own_d11_425 rfl rfl ?_
    have H236 := H230.frontA 2 rfl
    replace H236 : own_H Z h226 (own_DP a99 (.ref ta104) (.ref ca105) (.int (0 : Int32)) :: own_CN (aa 5) (.double (FP.i2d (za 5))) .null (.int (0 : Int32)) (.int (1 : Int32)) :: own_CN (aa 4) (.double (FP.i2d (za 4))) .null (.int (0 : Int32)) (.int (1 : Int32)) :: own_CN (aa 3) (.double (FP.i2d (za 3))) .null (.int (0 : Int32)) (.int (1 : Int32)) :: own_CN (aa 2) (.double (FP.i2d (za 2))) .null (.int (0 : Int32)) (.int (1 : Int32)) :: own_CN (aa 1) (.double (FP.i2d (za 1))) .null (.int (0 : Int32)) (.int (1 : Int32)) :: own_CN (aa 0) (.double (FP.i2d (za 0))) .null (.int (0 : Int32)) (.int (1 : Int32)) :: []) ((a42, (.object "com/example/slotwise/slotwise/Simulation$Connection"), "[Lcom/example/slotwise/slotwise/Simulation$Connection;", [(.ref (aa 0)), (.ref (aa 1)), (.ref (aa 2)), (.ref (aa 3)), (.ref (aa 4)), (.ref (aa 5))]) :: (ta104, .double, "[D", ((.double (FP.i2d (za k221))) :: (.double (FP.i2d (za k212))) :: (.double (FP.i2d (za k201))) :: (.double (FP.i2d (za k188))) :: (.double (FP.i2d (za k174))) :: (.double (0 : UInt64)) :: (List.replicate 58 (.double (0 : UInt64))))) :: (ca105, (.object "com/example/slotwise/slotwise/Simulation$Connection"), "[Lcom/example/slotwise/slotwise/Simulation$Connection;", (.null :: .null :: .null :: .null :: .null :: .null :: (List.replicate 58 .null))) :: (a3, .int, "[I", [(.int (za 0)), (.int (za 1)), (.int (za 2)), (.int (za 3)), (.int (za 4)), (.int (za 5))]) :: []) := H236
    refine own_static K own_d11_427 (own_w65 hw) (own_w66 hw) (own_w3 hw) (own_w67 hw) (argsL := [(.ref (aa k125)), (.ref a42)]) (rest := []) (own_idx hw H236 hne ltk125) own_pd8 rfl rfl rfl (by decide) (W := 0) (Nat.le_of_eq rfl) (by decide) (by decide) (by decide) (by decide) ?_
    intro v239 h237 q238
    obtain ⟨rfl, rfl⟩ := q238
    refine own_istore K own_d11_430 (Ls' := #[.val (.long pk), .second, .val (.int mo), .val (.ref a3), .val (.ref a42), .val (.int (2 : Int32)), .val (.int (3 : Int32)), .val (.ref a99), .val (.ref (aa k125)), .val (.ref (aa k170)), .val (.ref (aa k185)), .val (.ref (aa k199)), .val (.ref (aa k211)), .val (.ref (aa k221)), .val (.int (1 : Int32)), .val (.int (Int32.ofNat k125)), .unset, .unset, .unset, .unset, .unset, .unset, .unset, .unset, .unset, .unset, .unset]) rfl ?_
    refine own_aload K own_d11_432 rfl rfl ?_
    refine own_aload K own_d11_434 rfl rfl ?_
    refine own_static K own_d11_436 (own_w65 hw) (own_w66 hw) (own_w3 hw) (own_w67 hw) (argsL := [(.ref (aa k170)), (.ref a42)]) (rest := []) (own_idx hw H236 hne ltk170) own_pd8 rfl rfl rfl (by decide) (W := 0) (Nat.le_of_eq rfl) (by decide) (by decide) (by decide) (by decide) ?_
    intro v242 h240 q241
    obtain ⟨rfl, rfl⟩ := q241
    refine own_istore K own_d11_439 (Ls' := #[.val (.long pk), .second, .val (.int mo), .val (.ref a3), .val (.ref a42), .val (.int (2 : Int32)), .val (.int (3 : Int32)), .val (.ref a99), .val (.ref (aa k125)), .val (.ref (aa k170)), .val (.ref (aa k185)), .val (.ref (aa k199)), .val (.ref (aa k211)), .val (.ref (aa k221)), .val (.int (1 : Int32)), .val (.int (Int32.ofNat k125)), .val (.int (Int32.ofNat k170)), .unset, .unset, .unset, .unset, .unset, .unset, .unset, .unset, .unset, .unset]) rfl ?_
    refine own_aload K own_d11_441 rfl rfl ?_
    refine own_aload K own_d11_443 rfl rfl ?_
    refine own_static K own_d11_445 (own_w65 hw) (own_w66 hw) (own_w3 hw) (own_w67 hw) (argsL := [(.ref (aa k185)), (.ref a42)]) (rest := []) (own_idx hw H236 hne ltk185) own_pd8 rfl rfl rfl (by decide) (W := 0) (Nat.le_of_eq rfl) (by decide) (by decide) (by decide) (by decide) ?_
    intro v245 h243 q244
    obtain ⟨rfl, rfl⟩ := q244
    refine own_istore K own_d11_448 (Ls' := #[.val (.long pk), .second, .val (.int mo), .val (.ref a3), .val (.ref a42), .val (.int (2 : Int32)), .val (.int (3 : Int32)), .val (.ref a99), .val (.ref (aa k125)), .val (.ref (aa k170)), .val (.ref (aa k185)), .val (.ref (aa k199)), .val (.ref (aa k211)), .val (.ref (aa k221)), .val (.int (1 : Int32)), .val (.int (Int32.ofNat k125)), .val (.int (Int32.ofNat k170)), .val (.int (Int32.ofNat k185)), .unset, .unset, .unset, .unset, .unset, .unset, .unset, .unset, .unset]) rfl ?_
    refine own_aload K own_d11_450 rfl rfl ?_
    refine own_aload K own_d11_452 rfl rfl ?_
    refine own_static K own_d11_454 (own_w65 hw) (own_w66 hw) (own_w3 hw) (own_w67 hw) (argsL := [(.ref (aa k199)), (.ref a42)]) (rest := []) (own_idx hw H236 hne ltk199) own_pd8 rfl rfl rfl (by decide) (W := 0) (Nat.le_of_eq rfl) (by decide) (by decide) (by decide) (by decide) ?_
    intro v248 h246 q247
    obtain ⟨rfl, rfl⟩ := q247
    refine own_istore K own_d11_457 (Ls' := #[.val (.long pk), .second, .val (.int mo), .val (.ref a3), .val (.ref a42), .val (.int (2 : Int32)), .val (.int (3 : Int32)), .val (.ref a99), .val (.ref (aa k125)), .val (.ref (aa k170)), .val (.ref (aa k185)), .val (.ref (aa k199)), .val (.ref (aa k211)), .val (.ref (aa k221)), .val (.int (1 : Int32)), .val (.int (Int32.ofNat k125)), .val (.int (Int32.ofNat k170)), .val (.int (Int32.ofNat k185)), .val (.int (Int32.ofNat k199)), .unset, .unset, .unset, .unset, .unset, .unset, .unset, .unset]) rfl ?_
    refine own_aload K own_d11_459 rfl rfl ?_
    refine own_aload K own_d11_461 rfl rfl ?_
    refine own_static K own_d11_463 (own_w65 hw) (own_w66 hw) (own_w3 hw) (own_w67 hw) (argsL := [(.ref (aa k211)), (.ref a42)]) (rest := []) (own_idx hw H236 hne ltk211) own_pd8 rfl rfl rfl (by decide) (W := 0) (Nat.le_of_eq rfl) (by decide) (by decide) (by decide) (by decide) ?_
    intro v251 h249 q250
    obtain ⟨rfl, rfl⟩ := q250
    refine own_istore K own_d11_466 (Ls' := #[.val (.long pk), .second, .val (.int mo), .val (.ref a3), .val (.ref a42), .val (.int (2 : Int32)), .val (.int (3 : Int32)), .val (.ref a99), .val (.ref (aa k125)), .val (.ref (aa k170)), .val (.ref (aa k185)), .val (.ref (aa k199)), .val (.ref (aa k211)), .val (.ref (aa k221)), .val (.int (1 : Int32)), .val (.int (Int32.ofNat k125)), .val (.int (Int32.ofNat k170)), .val (.int (Int32.ofNat k185)), .val (.int (Int32.ofNat k199)), .val (.int (Int32.ofNat k211)), .unset, .unset, .unset, .unset, .unset, .unset, .unset]) rfl ?_
    refine own_aload K own_d11_468 rfl rfl ?_
    refine own_aload K own_d11_470 rfl rfl ?_
    refine own_static K own_d11_472 (own_w65 hw) (own_w66 hw) (own_w3 hw) (own_w67 hw) (argsL := [(.ref (aa k221)), (.ref a42)]) (rest := []) (own_idx hw H236 hne ltk221) own_pd8 rfl rfl rfl (by decide) (W := 0) (Nat.le_of_eq rfl) (by decide) (by decide) (by decide) (by decide) ?_
    intro v254 h252 q253
    obtain ⟨rfl, rfl⟩ := q253
    refine own_istore K own_d11_475 (Ls' := #[.val (.long pk), .second, .val (.int mo), .val (.ref a3), .val (.ref a42), .val (.int (2 : Int32)), .val (.int (3 : Int32)), .val (.ref a99), .val (.ref (aa k125)), .val (.ref (aa k170)), .val (.ref (aa k185)), .val (.ref (aa k199)), .val (.ref (aa k211)), .val (.ref (aa k221)), .val (.int (1 : Int32)), .val (.int (Int32.ofNat k125)), .val (.int (Int32.ofNat k170)), .val (.int (Int32.ofNat k185)), .val (.int (Int32.ofNat k199)), .val (.int (Int32.ofNat k211)), .val (.int (Int32.ofNat k221)), .unset, .unset, .unset, .unset, .unset, .unset]) rfl ?_
    refine own_iload K own_d11_477 rfl ?_
    refine own_iflt K own_d11_479 (fun q => absurd q (by rw [own_oN ltk125]; omega)) (fun _ => ?_)
    refine own_iload K own_d11_482 rfl ?_
    refine own_iflt K own_d11_484 (fun q => absurd q (by rw [own_oN ltk170]; omega)) (fun _ => ?_)
    refine own_iload K own_d11_487 rfl ?_
    refine own_iflt K own_d11_489 (fun q => absurd q (by rw [own_oN ltk185]; omega)) (fun _ => ?_)
    refine own_iload K own_d11_492 rfl ?_
    refine own_iflt K own_d11_494 (fun q => absurd q (by rw [own_oN ltk199]; omega)) (fun _ => ?_)
    refine own_iload K own_d11_497 rfl ?_
    refine own_iflt K own_d11_499 (fun q => absurd q (by rw [own_oN ltk211]; omega)) (fun _ => ?_)
    refine own_iload K own_d11_502 rfl ?_
    refine own_ifge K own_d11_504 (fun _ => ?_) (fun q => absurd (by rw [own_oN ltk221]; omega) q)
    refine own_iconst K own_d11_509 (v := (1 : Int32)) rfl ?_
    refine own_iload K own_d11_510 rfl ?_
    refine own_ishl K own_d11_512 ?_
    refine own_iconst K own_d11_513 (v := (1 : Int32)) rfl ?_
    refine own_iload K own_d11_514 rfl ?_
    refine own_ishl K own_d11_516 ?_
    refine own_ior K own_d11_517 ?_
    refine own_iconst K own_d11_518 (v := (1 : Int32)) rfl ?_
    refine own_iload K own_d11_519 rfl ?_
    refine own_ishl K own_d11_521 ?_
    refine own_ior K own_d11_522 ?_
    refine own_iconst K own_d11_523 (v := (1 : Int32)) rfl ?_
    refine own_iload K own_d11_524 rfl ?_
    refine own_ishl K own_d11_526 ?_
    refine own_ior K own_d11_527 ?_
    refine own_iconst K own_d11_528 (v := (1 : Int32)) rfl ?_
    refine own_iload K own_d11_529 rfl ?_
    refine own_ishl K own_d11_531 ?_
    refine own_ior K own_d11_532 ?_
    refine own_iconst K own_d11_533 (v := (1 : Int32)) rfl ?_
    refine own_iload K own_d11_534 rfl ?_
    refine own_ishl K own_d11_536 ?_
    refine own_ior K own_d11_537 ?_
    refine own_bipush K own_d11_538 (v := (63 : Int32)) rfl ?_
    refine own_icmpeq K own_d11_540 (fun _ => ?_) (fun q => absurd (own_mask PM232) q)
    refine own_iload K own_d11_545 rfl ?_
    refine own_iload K own_d11_547 rfl ?_
    refine own_icmplt K own_d11_549 (fun _ => ?_) (fun q => absurd (by rw [own_oN ltk125]; show (k125 : Int) < 3; omega) q)
    refine own_aloadN K own_d11_554 rfl rfl ?_
    refine own_iload K own_d11_555 rfl ?_
    refine own_iaload K own_d11_557 H236 (i := 3) rfl (q := k125) (own_oN ltk125) (own_vz ltk125) ?_
    refine own_istore K own_d11_558 (Ls' := #[.val (.long pk), .second, .val (.int mo), .val (.ref a3), .val (.ref a42), .val (.int (2 : Int32)), .val (.int (3 : Int32)), .val (.ref a99), .val (.ref (aa k125)), .val (.ref (aa k170)), .val (.ref (aa k185)), .val (.ref (aa k199)), .val (.ref (aa k211)), .val (.ref (aa k221)), .val (.int (1 : Int32)), .val (.int (Int32.ofNat k125)), .val (.int (Int32.ofNat k170)), .val (.int (Int32.ofNat k185)), .val (.int (Int32.ofNat k199)), .val (.int (Int32.ofNat k211)), .val (.int (Int32.ofNat k221)), .val (.int (za k125)), .unset, .unset, .unset, .unset, .unset]) rfl ?_
    refine own_aloadN K own_d11_560 rfl rfl ?_
    refine own_iload K own_d11_561 rfl ?_
    refine own_iaload K own_d11_563 H236 (i := 3) rfl (q := k170) (own_oN ltk170) (own_vz ltk170) ?_
    refine own_istore K own_d11_564 (Ls' := #[.val (.long pk), .second, .val (.int mo), .val (.ref a3), .val (.ref a42), .val (.int (2 : Int32)), .val (.int (3 : Int32)), .val (.ref a99), .val (.ref (aa k125)), .val (.ref (aa k170)), .val (.ref (aa k185)), .val (.ref (aa k199)), .val (.ref (aa k211)), .val (.ref (aa k221)), .val (.int (1 : Int32)), .val (.int (Int32.ofNat k125)), .val (.int (Int32.ofNat k170)), .val (.int (Int32.ofNat k185)), .val (.int (Int32.ofNat k199)), .val (.int (Int32.ofNat k211)), .val (.int (Int32.ofNat k221)), .val (.int (za k125)), .val (.int (za k170)), .unset, .unset, .unset, .unset]) rfl ?_
    refine own_aloadN K own_d11_566 rfl rfl ?_
    refine own_iload K own_d11_567 rfl ?_
    refine own_iaload K own_d11_569 H236 (i := 3) rfl (q := k185) (own_oN ltk185) (own_vz ltk185) ?_
    refine own_istore K own_d11_570 (Ls' := #[.val (.long pk), .second, .val (.int mo), .val (.ref a3), .val (.ref a42), .val (.int (2 : Int32)), .val (.int (3 : Int32)), .val (.ref a99), .val (.ref (aa k125)), .val (.ref (aa k170)), .val (.ref (aa k185)), .val (.ref (aa k199)), .val (.ref (aa k211)), .val (.ref (aa k221)), .val (.int (1 : Int32)), .val (.int (Int32.ofNat k125)), .val (.int (Int32.ofNat k170)), .val (.int (Int32.ofNat k185)), .val (.int (Int32.ofNat k199)), .val (.int (Int32.ofNat k211)), .val (.int (Int32.ofNat k221)), .val (.int (za k125)), .val (.int (za k170)), .val (.int (za k185)), .unset, .unset, .unset]) rfl ?_
    refine own_aloadN K own_d11_572 rfl rfl ?_
    refine own_iload K own_d11_573 rfl ?_
    refine own_iaload K own_d11_575 H236 (i := 3) rfl (q := k199) (own_oN ltk199) (own_vz ltk199) ?_
    refine own_istore K own_d11_576 (Ls' := #[.val (.long pk), .second, .val (.int mo), .val (.ref a3), .val (.ref a42), .val (.int (2 : Int32)), .val (.int (3 : Int32)), .val (.ref a99), .val (.ref (aa k125)), .val (.ref (aa k170)), .val (.ref (aa k185)), .val (.ref (aa k199)), .val (.ref (aa k211)), .val (.ref (aa k221)), .val (.int (1 : Int32)), .val (.int (Int32.ofNat k125)), .val (.int (Int32.ofNat k170)), .val (.int (Int32.ofNat k185)), .val (.int (Int32.ofNat k199)), .val (.int (Int32.ofNat k211)), .val (.int (Int32.ofNat k221)), .val (.int (za k125)), .val (.int (za k170)), .val (.int (za k185)), .val (.int (za k199)), .unset, .unset]) rfl ?_
    refine own_aloadN K own_d11_578 rfl rfl ?_
    refine own_iload K own_d11_579 rfl ?_
    refine own_iaload K own_d11_581 H236 (i := 3) rfl (q := k211) (own_oN ltk211) (own_vz ltk211) ?_
    refine own_istore K own_d11_582 (Ls' := #[.val (.long pk), .second, .val (.int mo), .val (.ref a3), .val (.ref a42), .val (.int (2 : Int32)), .val (.int (3 : Int32)), .val (.ref a99), .val (.ref (aa k125)), .val (.ref (aa k170)), .val (.ref (aa k185)), .val (.ref (aa k199)), .val (.ref (aa k211)), .val (.ref (aa k221)), .val (.int (1 : Int32)), .val (.int (Int32.ofNat k125)), .val (.int (Int32.ofNat k170)), .val (.int (Int32.ofNat k185)), .val (.int (Int32.ofNat k199)), .val (.int (Int32.ofNat k211)), .val (.int (Int32.ofNat k221)), .val (.int (za k125)), .val (.int (za k170)), .val (.int (za k185)), .val (.int (za k199)), .val (.int (za k211)), .unset]) rfl ?_
    refine own_aloadN K own_d11_584 rfl rfl ?_
    refine own_iload K own_d11_585 rfl ?_
    refine own_iaload K own_d11_587 H236 (i := 3) rfl (q := k221) (own_oN ltk221) (own_vz ltk221) ?_
    refine own_istore K own_d11_588 (Ls' := #[.val (.long pk), .second, .val (.int mo), .val (.ref a3), .val (.ref a42), .val (.int (2 : Int32)), .val (.int (3 : Int32)), .val (.ref a99), .val (.ref (aa k125)), .val (.ref (aa k170)), .val (.ref (aa k185)), .val (.ref (aa k199)), .val (.ref (aa k211)), .val (.ref (aa k221)), .val (.int (1 : Int32)), .val (.int (Int32.ofNat k125)), .val (.int (Int32.ofNat k170)), .val (.int (Int32.ofNat k185)), .val (.int (Int32.ofNat k199)), .val (.int (Int32.ofNat k211)), .val (.int (Int32.ofNat k221)), .val (.int (za k125)), .val (.int (za k170)), .val (.int (za k185)), .val (.int (za k199)), .val (.int (za k211)), .val (.int (za k221))]) rfl ?_
    refine own_iload K own_d11_590 rfl ?_
    refine own_aloadN K own_d11_592 rfl rfl ?_
    refine own_iload K own_d11_593 rfl ?_
    have H255 := H236.frontA 3 rfl
    replace H255 : own_H Z h226 (own_DP a99 (.ref ta104) (.ref ca105) (.int (0 : Int32)) :: own_CN (aa 5) (.double (FP.i2d (za 5))) .null (.int (0 : Int32)) (.int (1 : Int32)) :: own_CN (aa 4) (.double (FP.i2d (za 4))) .null (.int (0 : Int32)) (.int (1 : Int32)) :: own_CN (aa 3) (.double (FP.i2d (za 3))) .null (.int (0 : Int32)) (.int (1 : Int32)) :: own_CN (aa 2) (.double (FP.i2d (za 2))) .null (.int (0 : Int32)) (.int (1 : Int32)) :: own_CN (aa 1) (.double (FP.i2d (za 1))) .null (.int (0 : Int32)) (.int (1 : Int32)) :: own_CN (aa 0) (.double (FP.i2d (za 0))) .null (.int (0 : Int32)) (.int (1 : Int32)) :: []) ((a3, .int, "[I", [(.int (za 0)), (.int (za 1)), (.int (za 2)), (.int (za 3)), (.int (za 4)), (.int (za 5))]) :: (a42, (.object "com/example/slotwise/slotwise/Simulation$Connection"), "[Lcom/example/slotwise/slotwise/Simulation$Connection;", [(.ref (aa 0)), (.ref (aa 1)), (.ref (aa 2)), (.ref (aa 3)), (.ref (aa 4)), (.ref (aa 5))]) :: (ta104, .double, "[D", ((.double (FP.i2d (za k221))) :: (.double (FP.i2d (za k212))) :: (.double (FP.i2d (za k201))) :: (.double (FP.i2d (za k188))) :: (.double (FP.i2d (za k174))) :: (.double (0 : UInt64)) :: (List.replicate 58 (.double (0 : UInt64))))) :: (ca105, (.object "com/example/slotwise/slotwise/Simulation$Connection"), "[Lcom/example/slotwise/slotwise/Simulation$Connection;", (.null :: .null :: .null :: .null :: .null :: .null :: (List.replicate 58 .null))) :: []) := H255
    refine own_static K own_d11_595 (own_w68 hw) (own_w69 hw) (own_w3 hw) (own_w70 hw) (argsL := [(.ref a3), (.int (3 : Int32))]) (rest := [(.int (za k125))]) (own_mut3 hw H255) own_pd9 rfl rfl rfl (by decide) (W := 1) (Nat.le_of_eq rfl) (by decide) (by decide) (by decide) (by decide) ?_
    intro v258 h256 q257
    obtain ⟨⟨im, him, rfl⟩, rfl⟩ := q257
    refine own_icmple K own_d11_598 (fun _ => ?_) (fun q => absurd (RM im him) q)
    refine own_iload K own_d11_603 rfl ?_
    refine own_bipush K own_d11_605 (v := (6 : Int32)) rfl ?_
    refine own_icmpne K own_d11_607 (fun _ => ?_) (fun q => absurd (by decide) q)
    refine own_iload K own_d11_619 rfl ?_
    refine own_iload K own_d11_621 rfl ?_
    refine own_icmpgt K own_d11_623 (fun q => absurd q (Int.not_lt.mpr le194)) (fun _ => ?_)
    refine own_iload K own_d11_626 rfl ?_
    refine own_iload K own_d11_628 rfl ?_
    refine own_icmpgt K own_d11_630 (fun q => absurd q (Int.not_lt.mpr le206)) (fun _ => ?_)
    refine own_iload K own_d11_633 rfl ?_
    refine own_iload K own_d11_635 rfl ?_
    refine own_icmpgt K own_d11_637 (fun q => absurd q (Int.not_lt.mpr le216)) (fun _ => ?_)
    refine own_iload K own_d11_640 rfl ?_
    refine own_iload K own_d11_642 rfl ?_
    refine own_icmpgt K own_d11_644 (fun q => absurd q (Int.not_lt.mpr le224)) (fun _ => ?_)
    refine own_iload K own_d11_647 rfl ?_
    refine own_ifeq K own_d11_649 (fun q => absurd q (by decide)) (fun _ => ?_)
    refine own_iconst K own_d11_652 (v := (1 : Int32)) rfl ?_
    refine own_goto K own_d11_653 ?_
    exact own_retZ K (by first | exact Or.inl rfl | exact Or.inr rfl | decide) own_d11_657 (by decide) (by decide) (rfl)
  · refine own_bipush K own_d11_0 (v := (6 : Int32)) rfl ?_
    refine own_newarray K own_d11_2 (ty := .int) rfl (own_w0 hw) H (q := 6) (by decide) (ad := "[I") (by decide +kernel) (vs := [(.int (0 : Int32)), (.int (0 : Int32)), (.int (0 : Int32)), (.int (0 : Int32)), (.int (0 : Int32)), (.int (0 : Int32))]) rfl (by decide) (by decide) (by decide) ?_
    intro h1 a3 H2
    replace H2 : own_H Z h1 ([]) ((a3, .int, "[I", [(.int (0 : Int32)), (.int (0 : Int32)), (.int (0 : Int32)), (.int (0 : Int32)), (.int (0 : Int32)), (.int (0 : Int32))]) :: []) := H2
    refine own_astoreN K own_d11_4 rfl (Ls' := #[.val (.long pk), .second, .val (.int mo), .val (.ref a3), .unset, .unset, .unset, .unset, .unset, .unset, .unset, .unset, .unset, .unset, .unset, .unset, .unset, .unset, .unset, .unset, .unset, .unset, .unset, .unset, .unset, .unset, .unset]) rfl ?_
    refine own_aloadN K own_d11_5 rfl rfl ?_
    refine own_iconst K own_d11_6 (v := (0 : Int32)) rfl ?_
    refine own_lloadN K own_d11_7 rfl ?_
    refine own_iconst K own_d11_8 (v := (0 : Int32)) rfl ?_
    refine own_static K own_d11_9 (own_w1 hw) (own_w2 hw) (own_w3 hw) (own_w4 hw) (argsL := [(.long pk), (.int (0 : Int32))]) (rest := [(.int (0 : Int32)), (.ref a3)]) (own_fld hw) own_pd3 rfl rfl rfl (by decide) (W := 2) (Nat.le_of_eq rfl) (by decide) (by decide) (by decide) (by decide) ?_
    intro v6 h4 q5
    obtain ⟨⟨z7, rfl⟩, rfl⟩ := q5
    refine own_iastore K own_d11_12 H2 (i := 0) rfl (q := 0) (by decide) (own_le rfl) ?_
    intro h8 H9
    replace H9 : own_H Z h8 ([]) ((a3, .int, "[I", [(.int z7), (.int (0 : Int32)), (.int (0 : Int32)), (.int (0 : Int32)), (.int (0 : Int32)), (.int (0 : Int32))]) :: []) := H9
    refine own_aloadN K own_d11_13 rfl rfl ?_
    refine own_iconst K own_d11_14 (v := (1 : Int32)) rfl ?_
    refine own_lloadN K own_d11_15 rfl ?_
    refine own_iconst K own_d11_16 (v := (1 : Int32)) rfl ?_
    refine own_static K own_d11_17 (own_w1 hw) (own_w2 hw) (own_w3 hw) (own_w4 hw) (argsL := [(.long pk), (.int (1 : Int32))]) (rest := [(.int (1 : Int32)), (.ref a3)]) (own_fld hw) own_pd3 rfl rfl rfl (by decide) (W := 2) (Nat.le_of_eq rfl) (by decide) (by decide) (by decide) (by decide) ?_
    intro v12 h10 q11
    obtain ⟨⟨z13, rfl⟩, rfl⟩ := q11
    refine own_iastore K own_d11_20 H9 (i := 0) rfl (q := 1) (by decide) (own_le rfl) ?_
    intro h14 H15
    replace H15 : own_H Z h14 ([]) ((a3, .int, "[I", [(.int z7), (.int z13), (.int (0 : Int32)), (.int (0 : Int32)), (.int (0 : Int32)), (.int (0 : Int32))]) :: []) := H15
    refine own_aloadN K own_d11_21 rfl rfl ?_
    refine own_iconst K own_d11_22 (v := (2 : Int32)) rfl ?_
    refine own_lloadN K own_d11_23 rfl ?_
    refine own_iconst K own_d11_24 (v := (2 : Int32)) rfl ?_
    refine own_static K own_d11_25 (own_w1 hw) (own_w2 hw) (own_w3 hw) (own_w4 hw) (argsL := [(.long pk), (.int (2 : Int32))]) (rest := [(.int (2 : Int32)), (.ref a3)]) (own_fld hw) own_pd3 rfl rfl rfl (by decide) (W := 2) (Nat.le_of_eq rfl) (by decide) (by decide) (by decide) (by decide) ?_
    intro v18 h16 q17
    obtain ⟨⟨z19, rfl⟩, rfl⟩ := q17
    refine own_iastore K own_d11_28 H15 (i := 0) rfl (q := 2) (by decide) (own_le rfl) ?_
    intro h20 H21
    replace H21 : own_H Z h20 ([]) ((a3, .int, "[I", [(.int z7), (.int z13), (.int z19), (.int (0 : Int32)), (.int (0 : Int32)), (.int (0 : Int32))]) :: []) := H21
    refine own_aloadN K own_d11_29 rfl rfl ?_
    refine own_iconst K own_d11_30 (v := (3 : Int32)) rfl ?_
    refine own_lloadN K own_d11_31 rfl ?_
    refine own_iconst K own_d11_32 (v := (3 : Int32)) rfl ?_
    refine own_static K own_d11_33 (own_w1 hw) (own_w2 hw) (own_w3 hw) (own_w4 hw) (argsL := [(.long pk), (.int (3 : Int32))]) (rest := [(.int (3 : Int32)), (.ref a3)]) (own_fld hw) own_pd3 rfl rfl rfl (by decide) (W := 2) (Nat.le_of_eq rfl) (by decide) (by decide) (by decide) (by decide) ?_
    intro v24 h22 q23
    obtain ⟨⟨z25, rfl⟩, rfl⟩ := q23
    refine own_iastore K own_d11_36 H21 (i := 0) rfl (q := 3) (by decide) (own_le rfl) ?_
    intro h26 H27
    replace H27 : own_H Z h26 ([]) ((a3, .int, "[I", [(.int z7), (.int z13), (.int z19), (.int z25), (.int (0 : Int32)), (.int (0 : Int32))]) :: []) := H27
    refine own_aloadN K own_d11_37 rfl rfl ?_
    refine own_iconst K own_d11_38 (v := (4 : Int32)) rfl ?_
    refine own_lloadN K own_d11_39 rfl ?_
    refine own_iconst K own_d11_40 (v := (4 : Int32)) rfl ?_
    refine own_static K own_d11_41 (own_w1 hw) (own_w2 hw) (own_w3 hw) (own_w4 hw) (argsL := [(.long pk), (.int (4 : Int32))]) (rest := [(.int (4 : Int32)), (.ref a3)]) (own_fld hw) own_pd3 rfl rfl rfl (by decide) (W := 2) (Nat.le_of_eq rfl) (by decide) (by decide) (by decide) (by decide) ?_
    intro v30 h28 q29
    obtain ⟨⟨z31, rfl⟩, rfl⟩ := q29
    refine own_iastore K own_d11_44 H27 (i := 0) rfl (q := 4) (by decide) (own_le rfl) ?_
    intro h32 H33
    replace H33 : own_H Z h32 ([]) ((a3, .int, "[I", [(.int z7), (.int z13), (.int z19), (.int z25), (.int z31), (.int (0 : Int32))]) :: []) := H33
    refine own_aloadN K own_d11_45 rfl rfl ?_
    refine own_iconst K own_d11_46 (v := (5 : Int32)) rfl ?_
    refine own_lloadN K own_d11_47 rfl ?_
    refine own_iconst K own_d11_48 (v := (5 : Int32)) rfl ?_
    refine own_static K own_d11_49 (own_w1 hw) (own_w2 hw) (own_w3 hw) (own_w4 hw) (argsL := [(.long pk), (.int (5 : Int32))]) (rest := [(.int (5 : Int32)), (.ref a3)]) (own_fld hw) own_pd3 rfl rfl rfl (by decide) (W := 2) (Nat.le_of_eq rfl) (by decide) (by decide) (by decide) (by decide) ?_
    intro v36 h34 q35
    obtain ⟨⟨z37, rfl⟩, rfl⟩ := q35
    refine own_iastore K own_d11_52 H33 (i := 0) rfl (q := 5) (by decide) (own_le rfl) ?_
    intro h38 H39
    replace H39 : own_H Z h38 ([]) ((a3, .int, "[I", [(.int z7), (.int z13), (.int z19), (.int z25), (.int z31), (.int z37)]) :: []) := H39
    obtain ⟨za, ez0, ez1, ez2, ez3, ez4, ez5⟩ : ∃ za : Nat → Int32, z7 = za 0 ∧ z13 = za 1 ∧ z19 = za 2 ∧ z25 = za 3 ∧ z31 = za 4 ∧ z37 = za 5 := ⟨fun j => [z7, z13, z19, z25, z31, z37].getD j 0, rfl, rfl, rfl, rfl, rfl, rfl⟩
    subst ez0 ez1 ez2 ez3 ez4 ez5
    refine own_bipush K own_d11_53 (v := (6 : Int32)) rfl ?_
    refine own_anewarray K own_d11_55 (own_w6 hw) (own_w7 hw) H39 (q := 6) (by decide) (ad := "[Lcom/example/slotwise/slotwise/Simulation$Connection;") (by decide +kernel) (vs := [.null, .null, .null, .null, .null, .null]) rfl (by decide) (by decide) (by decide) ?_
    intro h40 a42 H41
    replace H41 : own_H Z h40 ([]) ((a42, (.object "com/example/slotwise/slotwise/Simulation$Connection"), "[Lcom/example/slotwise/slotwise/Simulation$Connection;", [.null, .null, .null, .null, .null, .null]) :: (a3, .int, "[I", [(.int (za 0)), (.int (za 1)), (.int (za 2)), (.int (za 3)), (.int (za 4)), (.int (za 5))]) :: []) := H41
    refine own_astore K own_d11_58 rfl (Ls' := #[.val (.long pk), .second, .val (.int mo), .val (.ref a3), .val (.ref a42), .unset, .unset, .unset, .unset, .unset, .unset, .unset, .unset, .unset, .unset, .unset, .unset, .unset, .unset, .unset, .unset, .unset, .unset, .unset, .unset, .unset, .unset]) rfl ?_
    refine own_aload K own_d11_60 rfl rfl ?_
    refine own_iconst K own_d11_62 (v := (0 : Int32)) rfl ?_
    refine own_new K own_d11_63 (own_w6 hw) (own_w8 hw) (own_w9 hw) H41 (own_CN_F hw) (own_CN_P hw) (by decide) (by decide) ?_
    intro h43 a45 H44
    replace H44 : own_H Z h43 (own_CN a45 (.double (0 : UInt64)) .null (.int (0 : Int32)) (.int (0 : Int32)) :: []) ((a42, (.object "com/example/slotwise/slotwise/Simulation$Connection"), "[Lcom/example/slotwise/slotwise/Simulation$Connection;", [.null, .null, .null, .null, .null, .null]) :: (a3, .int, "[I", [(.int (za 0)), (.int (za 1)), (.int (za 2)), (.int (za 3)), (.int (za 4)), (.int (za 5))]) :: []) := H44
    refine own_dup K own_d11_66 rfl ?_
    refine own_aloadN K own_d11_67 rfl rfl ?_
    refine own_iconst K own_d11_68 (v := (0 : Int32)) rfl ?_
    refine own_iaload K own_d11_69 H44 (i := 1) rfl (q := 0) (by decide) (rfl) ?_
    refine own_i2d K own_d11_70 ?_
    refine own_aconstNull K own_d11_71 ?_
    refine own_iconst K own_d11_72 (v := (0 : Int32)) rfl ?_
    refine own_iconst K own_d11_73 (v := (1 : Int32)) rfl ?_
    refine own_special K own_d11_74 rfl (own_w10 hw) (own_w11 hw) (own_w9 hw) (own_w12 hw) (a := a45) (argsL := [(.double (FP.i2d (za 0))), .null, (.int (0 : Int32)), (.int (1 : Int32))]) (rest := [(.ref a45), (.int (0 : Int32)), (.ref a42)]) (own_ni hw H44) own_pd4 rfl rfl rfl (by decide) (W := 3) (Nat.le_of_eq rfl) (by decide) (by decide) (by decide) (by decide) ?_
    intro v48 h46 q47
    obtain ⟨rfl, H49⟩ := q47
    replace H49 : own_H Z h46 (own_CN a45 (.double (FP.i2d (za 0))) .null (.int (0 : Int32)) (.int (1 : Int32)) :: []) ((a42, (.object "com/example/slotwise/slotwise/Simulation$Connection"), "[Lcom/example/slotwise/slotwise/Simulation$Connection;", [.null, .null, .null, .null, .null, .null]) :: (a3, .int, "[I", [(.int (za 0)), (.int (za 1)), (.int (za 2)), (.int (za 3)), (.int (za 4)), (.int (za 5))]) :: []) := H49
    refine own_aastoreR K own_d11_77 H49 (i := 0) rfl (by decide) (Ins.self (H49.atO (i := 0) rfl)) (q := 0) (by decide) (own_le rfl) ?_
    intro h50 H51
    replace H51 : own_H Z h50 (own_CN a45 (.double (FP.i2d (za 0))) .null (.int (0 : Int32)) (.int (1 : Int32)) :: []) ((a42, (.object "com/example/slotwise/slotwise/Simulation$Connection"), "[Lcom/example/slotwise/slotwise/Simulation$Connection;", [(.ref a45), .null, .null, .null, .null, .null]) :: (a3, .int, "[I", [(.int (za 0)), (.int (za 1)), (.int (za 2)), (.int (za 3)), (.int (za 4)), (.int (za 5))]) :: []) := H51
    refine own_aload K own_d11_78 rfl rfl ?_
    refine own_iconst K own_d11_80 (v := (1 : Int32)) rfl ?_
    refine own_new K own_d11_81 (own_w6 hw) (own_w8 hw) (own_w9 hw) H51 (own_CN_F hw) (own_CN_P hw) (by decide) (by decide) ?_
    intro h52 a54 H53
    replace H53 : own_H Z h52 (own_CN a54 (.double (0 : UInt64)) .null (.int (0 : Int32)) (.int (0 : Int32)) :: own_CN a45 (.double (FP.i2d (za 0))) .null (.int (0 : Int32)) (.int (1 : Int32)) :: []) ((a42, (.object "com/example/slotwise/slotwise/Simulation$Connection"), "[Lcom/example/slotwise/slotwise/Simulation$Connection;", [(.ref a45), .null, .null, .null, .null, .null]) :: (a3, .int, "[I", [(.int (za 0)), (.int (za 1)), (.int (za 2)), (.int (za 3)), (.int (za 4)), (.int (za 5))]) :: []) := H53
    refine own_dup K own_d11_84 rfl ?_
    refine own_aloadN K own_d11_85 rfl rfl ?_
    refine own_iconst K own_d11_86 (v := (1 : Int32)) rfl ?_
    refine own_iaload K own_d11_87 H53 (i := 1) rfl (q := 1) (by decide) (rfl) ?_
    refine own_i2d K own_d11_88 ?_
    refine own_aconstNull K own_d11_89 ?_
    refine own_iconst K own_d11_90 (v := (0 : Int32)) rfl ?_
    refine own_iconst K own_d11_91 (v := (1 : Int32)) rfl ?_
    refine own_special K own_d11_92 rfl (own_w10 hw) (own_w11 hw) (own_w9 hw) (own_w12 hw) (a := a54) (argsL := [(.double (FP.i2d (za 1))), .null, (.int (0 : Int32)), (.int (1 : Int32))]) (rest := [(.ref a54), (.int (1 : Int32)), (.ref a42)]) (own_ni hw H53) own_pd4 rfl rfl rfl (by decide) (W := 3) (Nat.le_of_eq rfl) (by decide) (by decide) (by decide) (by decide) ?_
    intro v57 h55 q56
    obtain ⟨rfl, H58⟩ := q56
    replace H58 : own_H Z h55 (own_CN a54 (.double (FP.i2d (za 1))) .null (.int (0 : Int32)) (.int (1 : Int32)) :: own_CN a45 (.double (FP.i2d (za 0))) .null (.int (0 : Int32)) (.int (1 : Int32)) :: []) ((a42, (.object "com/example/slotwise/slotwise/Simulation$Connection"), "[Lcom/example/slotwise/slotwise/Simulation$Connection;", [(.ref a45), .null, .null, .null, .null, .null]) :: (a3, .int, "[I", [(.int (za 0)), (.int (za 1)), (.int (za 2)), (.int (za 3)), (.int (za 4)), (.int (za 5))]) :: []) := H58
    refine own_aastoreR K own_d11_95 H58 (i := 0) rfl (by decide) (Ins.self (H58.atO (i := 0) rfl)) (q := 1) (by decide) (own_le rfl) ?_
    intro h59 H60
    replace H60 : own_H Z h59 (own_CN a54 (.double (FP.i2d (za 1))) .null (.int (0 : Int32)) (.int (1 : Int32)) :: own_CN a45 (.double (FP.i2d (za 0))) .null (.int (0 : Int32)) (.int (1 : Int32)) :: []) ((a42, (.object "com/example/slotwise/slotwise/Simulation$Connection"), "[Lcom/example/slotwise/slotwise/Simulation$Connection;", [(.ref a45), (.ref a54), .null, .null, .null, .null]) :: (a3, .int, "[I", [(.int (za 0)), (.int (za 1)), (.int (za 2)), (.int (za 3)), (.int (za 4)), (.int (za 5))]) :: []) := H60
    refine own_aload K own_d11_96 rfl rfl ?_
    refine own_iconst K own_d11_98 (v := (2 : Int32)) rfl ?_
    refine own_new K own_d11_99 (own_w6 hw) (own_w8 hw) (own_w9 hw) H60 (own_CN_F hw) (own_CN_P hw) (by decide) (by decide) ?_
    intro h61 a63 H62
    replace H62 : own_H Z h61 (own_CN a63 (.double (0 : UInt64)) .null (.int (0 : Int32)) (.int (0 : Int32)) :: own_CN a54 (.double (FP.i2d (za 1))) .null (.int (0 : Int32)) (.int (1 : Int32)) :: own_CN a45 (.double (FP.i2d (za 0))) .null (.int (0 : Int32)) (.int (1 : Int32)) :: []) ((a42, (.object "com/example/slotwise/slotwise/Simulation$Connection"), "[Lcom/example/slotwise/slotwise/Simulation$Connection;", [(.ref a45), (.ref a54), .null, .null, .null, .null]) :: (a3, .int, "[I", [(.int (za 0)), (.int (za 1)), (.int (za 2)), (.int (za 3)), (.int (za 4)), (.int (za 5))]) :: []) := H62
    refine own_dup K own_d11_102 rfl ?_
    refine own_aloadN K own_d11_103 rfl rfl ?_
    refine own_iconst K own_d11_104 (v := (2 : Int32)) rfl ?_
    refine own_iaload K own_d11_105 H62 (i := 1) rfl (q := 2) (by decide) (rfl) ?_
    refine own_i2d K own_d11_106 ?_
    refine own_aconstNull K own_d11_107 ?_
    refine own_iconst K own_d11_108 (v := (0 : Int32)) rfl ?_
    refine own_iconst K own_d11_109 (v := (1 : Int32)) rfl ?_
    refine own_special K own_d11_110 rfl (own_w10 hw) (own_w11 hw) (own_w9 hw) (own_w12 hw) (a := a63) (argsL := [(.double (FP.i2d (za 2))), .null, (.int (0 : Int32)), (.int (1 : Int32))]) (rest := [(.ref a63), (.int (2 : Int32)), (.ref a42)]) (own_ni hw H62) own_pd4 rfl rfl rfl (by decide) (W := 3) (Nat.le_of_eq rfl) (by decide) (by decide) (by decide) (by decide) ?_
    intro v66 h64 q65
    obtain ⟨rfl, H67⟩ := q65
    replace H67 : own_H Z h64 (own_CN a63 (.double (FP.i2d (za 2))) .null (.int (0 : Int32)) (.int (1 : Int32)) :: own_CN a54 (.double (FP.i2d (za 1))) .null (.int (0 : Int32)) (.int (1 : Int32)) :: own_CN a45 (.double (FP.i2d (za 0))) .null (.int (0 : Int32)) (.int (1 : Int32)) :: []) ((a42, (.object "com/example/slotwise/slotwise/Simulation$Connection"), "[Lcom/example/slotwise/slotwise/Simulation$Connection;", [(.ref a45), (.ref a54), .null, .null, .null, .null]) :: (a3, .int, "[I", [(.int (za 0)), (.int (za 1)), (.int (za 2)), (.int (za 3)), (.int (za 4)), (.int (za 5))]) :: []) := H67
    refine own_aastoreR K own_d11_113 H67 (i := 0) rfl (by decide) (Ins.self (H67.atO (i := 0) rfl)) (q := 2) (by decide) (own_le rfl) ?_
    intro h68 H69
    replace H69 : own_H Z h68 (own_CN a63 (.double (FP.i2d (za 2))) .null (.int (0 : Int32)) (.int (1 : Int32)) :: own_CN a54 (.double (FP.i2d (za 1))) .null (.int (0 : Int32)) (.int (1 : Int32)) :: own_CN a45 (.double (FP.i2d (za 0))) .null (.int (0 : Int32)) (.int (1 : Int32)) :: []) ((a42, (.object "com/example/slotwise/slotwise/Simulation$Connection"), "[Lcom/example/slotwise/slotwise/Simulation$Connection;", [(.ref a45), (.ref a54), (.ref a63), .null, .null, .null]) :: (a3, .int, "[I", [(.int (za 0)), (.int (za 1)), (.int (za 2)), (.int (za 3)), (.int (za 4)), (.int (za 5))]) :: []) := H69
    refine own_aload K own_d11_114 rfl rfl ?_
    refine own_iconst K own_d11_116 (v := (3 : Int32)) rfl ?_
    refine own_new K own_d11_117 (own_w6 hw) (own_w8 hw) (own_w9 hw) H69 (own_CN_F hw) (own_CN_P hw) (by decide) (by decide) ?_
    intro h70 a72 H71
    replace H71 : own_H Z h70 (own_CN a72 (.double (0 : UInt64)) .null (.int (0 : Int32)) (.int (0 : Int32)) :: own_CN a63 (.double (FP.i2d (za 2))) .null (.int (0 : Int32)) (.int (1 : Int32)) :: own_CN a54 (.double (FP.i2d (za 1))) .null (.int (0 : Int32)) (.int (1 : Int32)) :: own_CN a45 (.double (FP.i2d (za 0))) .null (.int (0 : Int32)) (.int (1 : Int32)) :: []) ((a42, (.object "com/example/slotwise/slotwise/Simulation$Connection"), "[Lcom/example/slotwise/slotwise/Simulation$Connection;", [(.ref a45), (.ref a54), (.ref a63), .null, .null, .null]) :: (a3, .int, "[I", [(.int (za 0)), (.int (za 1)), (.int (za 2)), (.int (za 3)), (.int (za 4)), (.int (za 5))]) :: []) := H71
    refine own_dup K own_d11_120 rfl ?_
    refine own_aloadN K own_d11_121 rfl rfl ?_
    refine own_iconst K own_d11_122 (v := (3 : Int32)) rfl ?_
    refine own_iaload K own_d11_123 H71 (i := 1) rfl (q := 3) (by decide) (rfl) ?_
    refine own_i2d K own_d11_124 ?_
    refine own_aconstNull K own_d11_125 ?_
    refine own_iconst K own_d11_126 (v := (0 : Int32)) rfl ?_
    refine own_iconst K own_d11_127 (v := (1 : Int32)) rfl ?_
    refine own_special K own_d11_128 rfl (own_w10 hw) (own_w11 hw) (own_w9 hw) (own_w12 hw) (a := a72) (argsL := [(.double (FP.i2d (za 3))), .null, (.int (0 : Int32)), (.int (1 : Int32))]) (rest := [(.ref a72), (.int (3 : Int32)), (.ref a42)]) (own_ni hw H71) own_pd4 rfl rfl rfl (by decide) (W := 3) (Nat.le_of_eq rfl) (by decide) (by decide) (by decide) (by decide) ?_
    intro v75 h73 q74
    obtain ⟨rfl, H76⟩ := q74
    replace H76 : own_H Z h73 (own_CN a72 (.double (FP.i2d (za 3))) .null (.int (0 : Int32)) (.int (1 : Int32)) :: own_CN a63 (.double (FP.i2d (za 2))) .null (.int (0 : Int32)) (.int (1 : Int32)) :: own_CN a54 (.double (FP.i2d (za 1))) .null (.int (0 : Int32)) (.int (1 : Int32)) :: own_CN a45 (.double (FP.i2d (za 0))) .null (.int (0 : Int32)) (.int (1 : Int32)) :: []) ((a42, (.object "com/example/slotwise/slotwise/Simulation$Connection"), "[Lcom/example/slotwise/slotwise/Simulation$Connection;", [(.ref a45), (.ref a54), (.ref a63), .null, .null, .null]) :: (a3, .int, "[I", [(.int (za 0)), (.int (za 1)), (.int (za 2)), (.int (za 3)), (.int (za 4)), (.int (za 5))]) :: []) := H76
    refine own_aastoreR K own_d11_131 H76 (i := 0) rfl (by decide) (Ins.self (H76.atO (i := 0) rfl)) (q := 3) (by decide) (own_le rfl) ?_
    intro h77 H78
    replace H78 : own_H Z h77 (own_CN a72 (.double (FP.i2d (za 3))) .null (.int (0 : Int32)) (.int (1 : Int32)) :: own_CN a63 (.double (FP.i2d (za 2))) .null (.int (0 : Int32)) (.int (1 : Int32)) :: own_CN a54 (.double (FP.i2d (za 1))) .null (.int (0 : Int32)) (.int (1 : Int32)) :: own_CN a45 (.double (FP.i2d (za 0))) .null (.int (0 : Int32)) (.int (1 : Int32)) :: []) ((a42, (.object "com/example/slotwise/slotwise/Simulation$Connection"), "[Lcom/example/slotwise/slotwise/Simulation$Connection;", [(.ref a45), (.ref a54), (.ref a63), (.ref a72), .null, .null]) :: (a3, .int, "[I", [(.int (za 0)), (.int (za 1)), (.int (za 2)), (.int (za 3)), (.int (za 4)), (.int (za 5))]) :: []) := H78
    refine own_aload K own_d11_132 rfl rfl ?_
    refine own_iconst K own_d11_134 (v := (4 : Int32)) rfl ?_
    refine own_new K own_d11_135 (own_w6 hw) (own_w8 hw) (own_w9 hw) H78 (own_CN_F hw) (own_CN_P hw) (by decide) (by decide) ?_
    intro h79 a81 H80
    replace H80 : own_H Z h79 (own_CN a81 (.double (0 : UInt64)) .null (.int (0 : Int32)) (.int (0 : Int32)) :: own_CN a72 (.double (FP.i2d (za 3))) .null (.int (0 : Int32)) (.int (1 : Int32)) :: own_CN a63 (.double (FP.i2d (za 2))) .null (.int (0 : Int32)) (.int (1 : Int32)) :: own_CN a54 (.double (FP.i2d (za 1))) .null (.int (0 : Int32)) (.int (1 : Int32)) :: own_CN a45 (.double (FP.i2d (za 0))) .null (.int (0 : Int32)) (.int (1 : Int32)) :: []) ((a42, (.object "com/example/slotwise/slotwise/Simulation$Connection"), "[Lcom/example/slotwise/slotwise/Simulation$Connection;", [(.ref a45), (.ref a54), (.ref a63), (.ref a72), .null, .null]) :: (a3, .int, "[I", [(.int (za 0)), (.int (za 1)), (.int (za 2)), (.int (za 3)), (.int (za 4)), (.int (za 5))]) :: []) := H80
    refine own_dup K own_d11_138 rfl ?_
    refine own_aloadN K own_d11_139 rfl rfl ?_
    refine own_iconst K own_d11_140 (v := (4 : Int32)) rfl ?_
    refine own_iaload K own_d11_141 H80 (i := 1) rfl (q := 4) (by decide) (rfl) ?_
    refine own_i2d K own_d11_142 ?_
    refine own_aconstNull K own_d11_143 ?_
    refine own_iconst K own_d11_144 (v := (0 : Int32)) rfl ?_
    refine own_iconst K own_d11_145 (v := (1 : Int32)) rfl ?_
    refine own_special K own_d11_146 rfl (own_w10 hw) (own_w11 hw) (own_w9 hw) (own_w12 hw) (a := a81) (argsL := [(.double (FP.i2d (za 4))), .null, (.int (0 : Int32)), (.int (1 : Int32))]) (rest := [(.ref a81), (.int (4 : Int32)), (.ref a42)]) (own_ni hw H80) own_pd4 rfl rfl rfl (by decide) (W := 3) (Nat.le_of_eq rfl) (by decide) (by decide) (by decide) (by decide) ?_
    intro v84 h82 q83
    obtain ⟨rfl, H85⟩ := q83
    replace H85 : own_H Z h82 (own_CN a81 (.double (FP.i2d (za 4))) .null (.int (0 : Int32)) (.int (1 : Int32)) :: own_CN a72 (.double (FP.i2d (za 3))) .null (.int (0 : Int32)) (.int (1 : Int32)) :: own_CN a63 (.double (FP.i2d (za 2))) .null (.int (0 : Int32)) (.int (1 : Int32)) :: own_CN a54 (.double (FP.i2d (za 1))) .null (.int (0 : Int32)) (.int (1 : Int32)) :: own_CN a45 (.double (FP.i2d (za 0))) .null (.int (0 : Int32)) (.int (1 : Int32)) :: []) ((a42, (.object "com/example/slotwise/slotwise/Simulation$Connection"), "[Lcom/example/slotwise/slotwise/Simulation$Connection;", [(.ref a45), (.ref a54), (.ref a63), (.ref a72), .null, .null]) :: (a3, .int, "[I", [(.int (za 0)), (.int (za 1)), (.int (za 2)), (.int (za 3)), (.int (za 4)), (.int (za 5))]) :: []) := H85
    refine own_aastoreR K own_d11_149 H85 (i := 0) rfl (by decide) (Ins.self (H85.atO (i := 0) rfl)) (q := 4) (by decide) (own_le rfl) ?_
    intro h86 H87
    replace H87 : own_H Z h86 (own_CN a81 (.double (FP.i2d (za 4))) .null (.int (0 : Int32)) (.int (1 : Int32)) :: own_CN a72 (.double (FP.i2d (za 3))) .null (.int (0 : Int32)) (.int (1 : Int32)) :: own_CN a63 (.double (FP.i2d (za 2))) .null (.int (0 : Int32)) (.int (1 : Int32)) :: own_CN a54 (.double (FP.i2d (za 1))) .null (.int (0 : Int32)) (.int (1 : Int32)) :: own_CN a45 (.double (FP.i2d (za 0))) .null (.int (0 : Int32)) (.int (1 : Int32)) :: []) ((a42, (.object "com/example/slotwise/slotwise/Simulation$Connection"), "[Lcom/example/slotwise/slotwise/Simulation$Connection;", [(.ref a45), (.ref a54), (.ref a63), (.ref a72), (.ref a81), .null]) :: (a3, .int, "[I", [(.int (za 0)), (.int (za 1)), (.int (za 2)), (.int (za 3)), (.int (za 4)), (.int (za 5))]) :: []) := H87
    refine own_aload K own_d11_150 rfl rfl ?_
    refine own_iconst K own_d11_152 (v := (5 : Int32)) rfl ?_
    refine own_new K own_d11_153 (own_w6 hw) (own_w8 hw) (own_w9 hw) H87 (own_CN_F hw) (own_CN_P hw) (by decide) (by decide) ?_
    intro h88 a90 H89
    replace H89 : own_H Z h88 (own_CN a90 (.double (0 : UInt64)) .null (.int (0 : Int32)) (.int (0 : Int32)) :: own_CN a81 (.double (FP.i2d (za 4))) .null (.int (0 : Int32)) (.int (1 : Int32)) :: own_CN a72 (.double (FP.i2d (za 3))) .null (.int (0 : Int32)) (.int (1 : Int32)) :: own_CN a63 (.double (FP.i2d (za 2))) .null (.int (0 : Int32)) (.int (1 : Int32)) :: own_CN a54 (.double (FP.i2d (za 1))) .null (.int (0 : Int32)) (.int (1 : Int32)) :: own_CN a45 (.double (FP.i2d (za 0))) .null (.int (0 : Int32)) (.int (1 : Int32)) :: []) ((a42, (.object "com/example/slotwise/slotwise/Simulation$Connection"), "[Lcom/example/slotwise/slotwise/Simulation$Connection;", [(.ref a45), (.ref a54), (.ref a63), (.ref a72), (.ref a81), .null]) :: (a3, .int, "[I", [(.int (za 0)), (.int (za 1)), (.int (za 2)), (.int (za 3)), (.int (za 4)), (.int (za 5))]) :: []) := H89
    refine own_dup K own_d11_156 rfl ?_
    refine own_aloadN K own_d11_157 rfl rfl ?_
    refine own_iconst K own_d11_158 (v := (5 : Int32)) rfl ?_
    refine own_iaload K own_d11_159 H89 (i := 1) rfl (q := 5) (by decide) (rfl) ?_
    refine own_i2d K own_d11_160 ?_
    refine own_aconstNull K own_d11_161 ?_
    refine own_iconst K own_d11_162 (v := (0 : Int32)) rfl ?_
    refine own_iconst K own_d11_163 (v := (1 : Int32)) rfl ?_
    refine own_special K own_d11_164 rfl (own_w10 hw) (own_w11 hw) (own_w9 hw) (own_w12 hw) (a := a90) (argsL := [(.double (FP.i2d (za 5))), .null, (.int (0 : Int32)), (.int (1 : Int32))]) (rest := [(.ref a90), (.int (5 : Int32)), (.ref a42)]) (own_ni hw H89) own_pd4 rfl rfl rfl (by decide) (W := 3) (Nat.le_of_eq rfl) (by decide) (by decide) (by decide) (by decide) ?_
    intro v93 h91 q92
    obtain ⟨rfl, H94⟩ := q92
    replace H94 : own_H Z h91 (own_CN a90 (.double (FP.i2d (za 5))) .null (.int (0 : Int32)) (.int (1 : Int32)) :: own_CN a81 (.double (FP.i2d (za 4))) .null (.int (0 : Int32)) (.int (1 : Int32)) :: own_CN a72 (.double (FP.i2d (za 3))) .null (.int (0 : Int32)) (.int (1 : Int32)) :: own_CN a63 (.double (FP.i2d (za 2))) .null (.int (0 : Int32)) (.int (1 : Int32)) :: own_CN a54 (.double (FP.i2d (za 1))) .null (.int (0 : Int32)) (.int (1 : Int32)) :: own_CN a45 (.double (FP.i2d (za 0))) .null (.int (0 : Int32)) (.int (1 : Int32)) :: []) ((a42, (.object "com/example/slotwise/slotwise/Simulation$Connection"), "[Lcom/example/slotwise/slotwise/Simulation$Connection;", [(.ref a45), (.ref a54), (.ref a63), (.ref a72), (.ref a81), .null]) :: (a3, .int, "[I", [(.int (za 0)), (.int (za 1)), (.int (za 2)), (.int (za 3)), (.int (za 4)), (.int (za 5))]) :: []) := H94
    refine own_aastoreR K own_d11_167 H94 (i := 0) rfl (by decide) (Ins.self (H94.atO (i := 0) rfl)) (q := 5) (by decide) (own_le rfl) ?_
    intro h95 H96
    replace H96 : own_H Z h95 (own_CN a90 (.double (FP.i2d (za 5))) .null (.int (0 : Int32)) (.int (1 : Int32)) :: own_CN a81 (.double (FP.i2d (za 4))) .null (.int (0 : Int32)) (.int (1 : Int32)) :: own_CN a72 (.double (FP.i2d (za 3))) .null (.int (0 : Int32)) (.int (1 : Int32)) :: own_CN a63 (.double (FP.i2d (za 2))) .null (.int (0 : Int32)) (.int (1 : Int32)) :: own_CN a54 (.double (FP.i2d (za 1))) .null (.int (0 : Int32)) (.int (1 : Int32)) :: own_CN a45 (.double (FP.i2d (za 0))) .null (.int (0 : Int32)) (.int (1 : Int32)) :: []) ((a42, (.object "com/example/slotwise/slotwise/Simulation$Connection"), "[Lcom/example/slotwise/slotwise/Simulation$Connection;", [(.ref a45), (.ref a54), (.ref a63), (.ref a72), (.ref a81), (.ref a90)]) :: (a3, .int, "[I", [(.int (za 0)), (.int (za 1)), (.int (za 2)), (.int (za 3)), (.int (za 4)), (.int (za 5))]) :: []) := H96
    obtain ⟨aa, ea0, ea1, ea2, ea3, ea4, ea5⟩ : ∃ aa : Nat → Addr, a45 = aa 0 ∧ a54 = aa 1 ∧ a63 = aa 2 ∧ a72 = aa 3 ∧ a81 = aa 4 ∧ a90 = aa 5 := ⟨fun j => [a45, a54, a63, a72, a81, a90].getD j 0, rfl, rfl, rfl, rfl, rfl, rfl⟩
    subst ea0 ea1 ea2 ea3 ea4 ea5
    replace H96 : own_H Z h95 (own_CN (aa 5) (.double (FP.i2d (za 5))) .null (.int (0 : Int32)) (.int (1 : Int32)) :: own_CN (aa 4) (.double (FP.i2d (za 4))) .null (.int (0 : Int32)) (.int (1 : Int32)) :: own_CN (aa 3) (.double (FP.i2d (za 3))) .null (.int (0 : Int32)) (.int (1 : Int32)) :: own_CN (aa 2) (.double (FP.i2d (za 2))) .null (.int (0 : Int32)) (.int (1 : Int32)) :: own_CN (aa 1) (.double (FP.i2d (za 1))) .null (.int (0 : Int32)) (.int (1 : Int32)) :: own_CN (aa 0) (.double (FP.i2d (za 0))) .null (.int (0 : Int32)) (.int (1 : Int32)) :: []) ((a42, (.object "com/example/slotwise/slotwise/Simulation$Connection"), "[Lcom/example/slotwise/slotwise/Simulation$Connection;", [(.ref (aa 0)), (.ref (aa 1)), (.ref (aa 2)), (.ref (aa 3)), (.ref (aa 4)), (.ref (aa 5))]) :: (a3, .int, "[I", [(.int (za 0)), (.int (za 1)), (.int (za 2)), (.int (za 3)), (.int (za 4)), (.int (za 5))]) :: []) := H96
    have n01 : aa 0 ≠ aa 1 := H96.neOO (i := 5) (j := 4) rfl rfl (by decide)
    have n02 : aa 0 ≠ aa 2 := H96.neOO (i := 5) (j := 3) rfl rfl (by decide)
    have n03 : aa 0 ≠ aa 3 := H96.neOO (i := 5) (j := 2) rfl rfl (by decide)
    have n04 : aa 0 ≠ aa 4 := H96.neOO (i := 5) (j := 1) rfl rfl (by decide)
    have n05 : aa 0 ≠ aa 5 := H96.neOO (i := 5) (j := 0) rfl rfl (by decide)
    have n12 : aa 1 ≠ aa 2 := H96.neOO (i := 4) (j := 3) rfl rfl (by decide)
    have n13 : aa 1 ≠ aa 3 := H96.neOO (i := 4) (j := 2) rfl rfl (by decide)
    have n14 : aa 1 ≠ aa 4 := H96.neOO (i := 4) (j := 1) rfl rfl (by decide)
    have n15 : aa 1 ≠ aa 5 := H96.neOO (i := 4) (j := 0) rfl rfl (by decide)
    have n23 : aa 2 ≠ aa 3 := H96.neOO (i := 3) (j := 2) rfl rfl (by decide)
    have n24 : aa 2 ≠ aa 4 := H96.neOO (i := 3) (j := 1) rfl rfl (by decide)
    have n25 : aa 2 ≠ aa 5 := H96.neOO (i := 3) (j := 0) rfl rfl (by decide)
    have n34 : aa 3 ≠ aa 4 := H96.neOO (i := 2) (j := 1) rfl rfl (by decide)
    have n35 : aa 3 ≠ aa 5 := H96.neOO (i := 2) (j := 0) rfl rfl (by decide)
    have n45 : aa 4 ≠ aa 5 := H96.neOO (i := 1) (j := 0) rfl rfl (by decide)
    have hne : ∀ i j, i < 6 → j < 6 → i ≠ j → aa i ≠ aa j := by intro i j hi hj hij; rcases own_lt6 hi with q' | q' | q' | q' | q' | q' <;> rcases own_lt6 hj with r' | r' | r' | r' | r' | r' <;> subst q' <;> subst r' <;> first | exact absurd rfl hij | assumption | (apply Ne.symm; assumption)
    have ho : ∀ j, j < 6 → ∃ i : Nat, ((own_CN (aa 5) (.double (FP.i2d (za 5))) .null (.int (0 : Int32)) (.int (1 : Int32)) :: own_CN (aa 4) (.double (FP.i2d (za 4))) .null (.int (0 : Int32)) (.int (1 : Int32)) :: own_CN (aa 3) (.double (FP.i2d (za 3))) .null (.int (0 : Int32)) (.int (1 : Int32)) :: own_CN (aa 2) (.double (FP.i2d (za 2))) .null (.int (0 : Int32)) (.int (1 : Int32)) :: own_CN (aa 1) (.double (FP.i2d (za 1))) .null (.int (0 : Int32)) (.int (1 : Int32)) :: own_CN (aa 0) (.double (FP.i2d (za 0))) .null (.int (0 : Int32)) (.int (1 : Int32)) :: []) : List own_O)[i]? = some (own_c aa za j) := by intro j hj; rcases own_lt6 hj with q' | q' | q' | q' | q' | q' <;> subst q' <;> first | exact ⟨0, rfl⟩ | exact ⟨1, rfl⟩ | exact ⟨2, rfl⟩ | exact ⟨3, rfl⟩ | exact ⟨4, rfl⟩ | exact ⟨5, rfl⟩
    refine own_iloadN K own_d11_168 rfl ?_
    refine own_iconst K own_d11_169 (v := (3 : Int32)) rfl ?_
    refine own_iand K own_d11_170 ?_
    refine own_topI (x' := (3 : Int32)) (q) ?_
    refine own_istore K own_d11_171 (Ls' := #[.val (.long pk), .second, .val (.int mo), .val (.ref a3), .val (.ref a42), .val (.int (3 : Int32)), .unset, .unset, .unset, .unset, .unset, .unset, .unset, .unset, .unset, .unset, .unset, .unset, .unset, .unset, .unset, .unset, .unset, .unset, .unset, .unset, .unset]) rfl ?_
    refine own_iload K own_d11_173 rfl ?_
    refine own_ifne K own_d11_175 (fun _ => ?_) (fun q => absurd (by decide) q)
    refine own_iload K own_d11_183 rfl ?_
    refine own_iconst K own_d11_185 (v := (1 : Int32)) rfl ?_
    refine own_icmpne K own_d11_186 (fun _ => ?_) (fun q => absurd (by decide) q)
    refine own_iload K own_d11_193 rfl ?_
    refine own_iconst K own_d11_195 (v := (2 : Int32)) rfl ?_
    refine own_icmpne K own_d11_196 (fun _ => ?_) (fun q => absurd (by decide) q)
    refine own_iconst K own_d11_203 (v := (1 : Int32)) rfl ?_
    refine own_istore K own_d11_204 (Ls' := #[.val (.long pk), .second, .val (.int mo), .val (.ref a3), .val (.ref a42), .val (.int (3 : Int32)), .val (.int (1 : Int32)), .unset, .unset, .unset, .unset, .unset, .unset, .unset, .unset, .unset, .unset, .unset, .unset, .unset, .unset, .unset, .unset, .unset, .unset, .unset, .unset]) rfl ?_
    refine own_new K own_d11_206 (own_w30 hw) (own_w31 hw) (own_w32 hw) H96 (own_DP_F hw) (own_DP_P hw) (by decide) (by decide) ?_
    intro h97 a99 H98
    replace H98 : own_H Z h97 (own_DP a99 .null .null (.int (0 : Int32)) :: own_CN (aa 5) (.double (FP.i2d (za 5))) .null (.int (0 : Int32)) (.int (1 : Int32)) :: own_CN (aa 4) (.double (FP.i2d (za 4))) .null (.int (0 : Int32)) (.int (1 : Int32)) :: own_CN (aa 3) (.double (FP.i2d (za 3))) .null (.int (0 : Int32)) (.int (1 : Int32)) :: own_CN (aa 2) (.double (FP.i2d (za 2))) .null (.int (0 : Int32)) (.int (1 : Int32)) :: own_CN (aa 1) (.double (FP.i2d (za 1))) .null (.int (0 : Int32)) (.int (1 : Int32)) :: own_CN (aa 0) (.double (FP.i2d (za 0))) .null (.int (0 : Int32)) (.int (1 : Int32)) :: []) ((a42, (.object "com/example/slotwise/slotwise/Simulation$Connection"), "[Lcom/example/slotwise/slotwise/Simulation$Connection;", [(.ref (aa 0)), (.ref (aa 1)), (.ref (aa 2)), (.ref (aa 3)), (.ref (aa 4)), (.ref (aa 5))]) :: (a3, .int, "[I", [(.int (za 0)), (.int (za 1)), (.int (za 2)), (.int (za 3)), (.int (za 4)), (.int (za 5))]) :: []) := H98
    refine own_dup K own_d11_209 rfl ?_
    refine own_special K own_d11_210 rfl (own_w33 hw) (own_w34 hw) (own_w32 hw) (own_w35 hw) (a := a99) (argsL := []) (rest := [(.ref a99)]) (own_di hw H98) own_pd1 rfl rfl rfl (by decide) (W := 1) (Nat.le_of_eq rfl) (by decide) (by decide) (by decide) (by decide) ?_
    intro v102 h100 q101
    obtain ⟨rfl, ta104, ca105, H103⟩ := q101
    replace H103 : own_H Z h100 (own_DP a99 (.ref ta104) (.ref ca105) (.int (0 : Int32)) :: own_CN (aa 5) (.double (FP.i2d (za 5))) .null (.int (0 : Int32)) (.int (1 : Int32)) :: own_CN (aa 4) (.double (FP.i2d (za 4))) .null (.int (0 : Int32)) (.int (1 : Int32)) :: own_CN (aa 3) (.double (FP.i2d (za 3))) .null (.int (0 : Int32)) (.int (1 : Int32)) :: own_CN (aa 2) (.double (FP.i2d (za 2))) .null (.int (0 : Int32)) (.int (1 : Int32)) :: own_CN (aa 1) (.double (FP.i2d (za 1))) .null (.int (0 : Int32)) (.int (1 : Int32)) :: own_CN (aa 0) (.double (FP.i2d (za 0))) .null (.int (0 : Int32)) (.int (1 : Int32)) :: []) ((ta104, .double, "[D", ((.double (0 : UInt64)) :: (.double (0 : UInt64)) :: (.double (0 : UInt64)) :: (.double (0 : UInt64)) :: (.double (0 : UInt64)) :: (.double (0 : UInt64)) :: (List.replicate 58 (.double (0 : UInt64))))) :: (ca105, (.object "com/example/slotwise/slotwise/Simulation$Connection"), "[Lcom/example/slotwise/slotwise/Simulation$Connection;", (.null :: .null :: .null :: .null :: .null :: .null :: (List.replicate 58 .null))) :: (a42, (.object "com/example/slotwise/slotwise/Simulation$Connection"), "[Lcom/example/slotwise/slotwise/Simulation$Connection;", [(.ref (aa 0)), (.ref (aa 1)), (.ref (aa 2)), (.ref (aa 3)), (.ref (aa 4)), (.ref (aa 5))]) :: (a3, .int, "[I", [(.int (za 0)), (.int (za 1)), (.int (za 2)), (.int (za 3)), (.int (za 4)), (.int (za 5))]) :: []) := H103
    refine own_astore K own_d11_213 rfl (Ls' := #[.val (.long pk), .second, .val (.int mo), .val (.ref a3), .val (.ref a42), .val (.int (3 : Int32)), .val (.int (1 : Int32)), .val (.ref a99), .unset, .unset, .unset, .unset, .unset, .unset, .unset, .unset, .unset, .unset, .unset, .unset, .unset, .unset, .unset, .unset, .unset, .unset, .unset]) rfl ?_
    refine own_aload K own_d11_215 rfl rfl ?_
    refine own_aload K own_d11_217 rfl rfl ?_
    refine own_iconst K own_d11_219 (v := (0 : Int32)) rfl ?_
    refine own_aaload K own_d11_220 H103 (i := 2) rfl rfl (q := 0) (by decide) (rfl) ?_
    refine own_virtual K own_d11_221 (own_w43 hw) (own_w44 hw) (own_w46 hw) (own_w45 hw) (own_w32 hw) (own_w47 hw) (H103.atO (i := 0) rfl) (a := a99) (argsL := [(.ref (aa 0))]) (rest := []) (own_add0 hw (j := 0) (by rfl) H103 ho (by decide)  ) own_pd5 rfl rfl rfl (by decide) (W := 0) (Nat.le_of_eq rfl) (by decide) (by decide) (by decide) (by decide) ?_
    intro v108 h106 q107
    obtain ⟨rfl, k109, pm110, ltk109, H111⟩ := q107
    have PM112 : List.Perm [k109] [0] := ((List.Perm.append_left [] pm110).trans List.perm_middle).trans (List.Perm.cons 0 (List.Perm.nil : List.Perm ([] : List Nat) []))
    replace H111 : own_H Z h106 (own_DP a99 (.ref ta104) (.ref ca105) (.int (1 : Int32)) :: own_CN (aa 5) (.double (FP.i2d (za 5))) .null (.int (0 : Int32)) (.int (1 : Int32)) :: own_CN (aa 4) (.double (FP.i2d (za 4))) .null (.int (0 : Int32)) (.int (1 : Int32)) :: own_CN (aa 3) (.double (FP.i2d (za 3))) .null (.int (0 : Int32)) (.int (1 : Int32)) :: own_CN (aa 2) (.double (FP.i2d (za 2))) .null (.int (0 : Int32)) (.int (1 : Int32)) :: own_CN (aa 1) (.double (FP.i2d (za 1))) .null (.int (0 : Int32)) (.int (1 : Int32)) :: own_CN (aa 0) (.double (FP.i2d (za 0))) .null (.int (0 : Int32)) (.int (1 : Int32)) :: []) ((ta104, .double, "[D", ((.double (FP.i2d (za k109))) :: (.double (0 : UInt64)) :: (.double (0 : UInt64)) :: (.double (0 : UInt64)) :: (.double (0 : UInt64)) :: (.double (0 : UInt64)) :: (List.replicate 58 (.double (0 : UInt64))))) :: (ca105, (.object "com/example/slotwise/slotwise/Simulation$Connection"), "[Lcom/example/slotwise/slotwise/Simulation$Connection;", ((.ref (aa k109)) :: .null :: .null :: .null :: .null :: .null :: (List.replicate 58 .null))) :: (a42, (.object "com/example/slotwise/slotwise/Simulation$Connection"), "[Lcom/example/slotwise/slotwise/Simulation$Connection;", [(.ref (aa 0)), (.ref (aa 1)), (.ref (aa 2)), (.ref (aa 3)), (.ref (aa 4)), (.ref (aa 5))]) :: (a3, .int, "[I", [(.int (za 0)), (.int (za 1)), (.int (za 2)), (.int (za 3)), (.int (za 4)), (.int (za 5))]) :: []) := H111
    refine own_iload K own_d11_224 rfl ?_
    refine own_iconst K own_d11_226 (v := (1 : Int32)) rfl ?_
    refine own_icmple K own_d11_227 (fun _ => ?_) (fun q => absurd (by decide) q)
    refine own_iload K own_d11_239 rfl ?_
    refine own_iconst K own_d11_241 (v := (2 : Int32)) rfl ?_
    refine own_icmple K own_d11_242 (fun _ => ?_) (fun q => absurd (by decide) q)
    refine own_iload K own_d11_254 rfl ?_
    refine own_iconst K own_d11_256 (v := (3 : Int32)) rfl ?_
    refine own_icmple K own_d11_257 (fun _ => ?_) (fun q => absurd (by decide) q)
    refine own_iload K own_d11_269 rfl ?_
    refine own_iconst K own_d11_271 (v := (4 : Int32)) rfl ?_
    refine own_icmple K own_d11_272 (fun _ => ?_) (fun q => absurd (by decide) q)
    refine own_iload K own_d11_284 rfl ?_
    refine own_iconst K own_d11_286 (v := (5 : Int32)) rfl ?_
    refine own_icmple K own_d11_287 (fun _ => ?_) (fun q => absurd (by decide) q)
    refine own_aload K own_d11_299 rfl rfl ?_
    have q1b : k109 < 1 := by have hm := PM112.mem_iff.mp (List.mem_cons_self (a := k109)); simp only [List.mem_cons, List.not_mem_nil, or_false] at hm; omega
    have RM : ∀ i, i < 1 → (za k109).toInt ≤ (za i).toInt := by intro i hi; rw [show i = k109 by omega]; exact Int.le_refl _
    refine own_virtual K own_d11_301 (own_w55 hw) (own_w56 hw) (own_w58 hw) (own_w57 hw) (own_w32 hw) (own_w59 hw) (H111.atO (i := 0) rfl) (a := a99) (argsL := []) (rest := []) (own_poll1 hw H111 ho ltk109 ) own_pd6 rfl rfl rfl (by decide) (W := 0) (Nat.le_of_eq rfl) (by decide) (by decide) (by decide) (by decide) ?_
    intro v115 h113 q114
    obtain ⟨rfl, H117⟩ := q114
    have PM119 : List.Perm [k109] [0] := (List.Perm.append_left [] (List.Perm.cons k109 List.Perm.nil)).trans PM112
    replace H117 : own_H Z h113 (own_DP a99 (.ref ta104) (.ref ca105) (.int (0 : Int32)) :: own_CN (aa 5) (.double (FP.i2d (za 5))) .null (.int (0 : Int32)) (.int (1 : Int32)) :: own_CN (aa 4) (.double (FP.i2d (za 4))) .null (.int (0 : Int32)) (.int (1 : Int32)) :: own_CN (aa 3) (.double (FP.i2d (za 3))) .null (.int (0 : Int32)) (.int (1 : Int32)) :: own_CN (aa 2) (.double (FP.i2d (za 2))) .null (.int (0 : Int32)) (.int (1 : Int32)) :: own_CN (aa 1) (.double (FP.i2d (za 1))) .null (.int (0 : Int32)) (.int (1 : Int32)) :: own_CN (aa 0) (.double (FP.i2d (za 0))) .null (.int (0 : Int32)) (.int (1 : Int32)) :: []) ((ta104, .double, "[D", ((.double (FP.i2d (za k109))) :: (.double (0 : UInt64)) :: (.double (0 : UInt64)) :: (.double (0 : UInt64)) :: (.double (0 : UInt64)) :: (.double (0 : UInt64)) :: (List.replicate 58 (.double (0 : UInt64))))) :: (ca105, (.object "com/example/slotwise/slotwise/Simulation$Connection"), "[Lcom/example/slotwise/slotwise/Simulation$Connection;", (.null :: .null :: .null :: .null :: .null :: .null :: (List.replicate 58 .null))) :: (a42, (.object "com/example/slotwise/slotwise/Simulation$Connection"), "[Lcom/example/slotwise/slotwise/Simulation$Connection;", [(.ref (aa 0)), (.ref (aa 1)), (.ref (aa 2)), (.ref (aa 3)), (.ref (aa 4)), (.ref (aa 5))]) :: (a3, .int, "[I", [(.int (za 0)), (.int (za 1)), (.int (za 2)), (.int (za 3)), (.int (za 4)), (.int (za 5))]) :: []) := H117
    refine own_astore K own_d11_304 rfl (Ls' := #[.val (.long pk), .second, .val (.int mo), .val (.ref a3), .val (.ref a42), .val (.int (3 : Int32)), .val (.int (1 : Int32)), .val (.ref a99), .val (.ref (aa k109)), .unset, .unset, .unset, .unset, .unset, .unset, .unset, .unset, .unset, .unset, .unset, .unset, .unset, .unset, .unset, .unset, .unset, .unset]) rfl ?_
    refine own_iload K own_d11_306 rfl ?_
    refine own_iconst K own_d11_308 (v := (1 : Int32)) rfl ?_
    refine own_icmpgt K own_d11_309 (fun q => absurd q (by decide)) (fun _ => ?_)
    refine own_aload K own_d11_312 rfl rfl ?_
    refine own_aload K own_d11_314 rfl rfl ?_
    refine own_iconst K own_d11_316 (v := (1 : Int32)) rfl ?_
    refine own_aaload K own_d11_317 H117 (i := 2) rfl rfl (q := 1) (by decide) (rfl) ?_
    refine own_virtual K own_d11_318 (own_w43 hw) (own_w44 hw) (own_w46 hw) (own_w45 hw) (own_w32 hw) (own_w47 hw) (H117.atO (i := 0) rfl) (a := a99) (argsL := [(.ref (aa 1))]) (rest := []) (own_add0 hw (j := 1) (by rfl) H117 ho (by decide)  ) own_pd5 rfl rfl rfl (by decide) (W := 0) (Nat.le_of_eq rfl) (by decide) (by decide) (by decide) (by decide) ?_
    intro v122 h120 q121
    obtain ⟨rfl, k123, pm124, ltk123, H125⟩ := q121
    have PM126 : List.Perm [k109, k123] [1, 0] := ((List.Perm.append_left [k109] pm124).trans List.perm_middle).trans (List.Perm.cons 1 PM119)
    replace H125 : own_H Z h120 (own_DP a99 (.ref ta104) (.ref ca105) (.int (1 : Int32)) :: own_CN (aa 5) (.double (FP.i2d (za 5))) .null (.int (0 : Int32)) (.int (1 : Int32)) :: own_CN (aa 4) (.double (FP.i2d (za 4))) .null (.int (0 : Int32)) (.int (1 : Int32)) :: own_CN (aa 3) (.double (FP.i2d (za 3))) .null (.int (0 : Int32)) (.int (1 : Int32)) :: own_CN (aa 2) (.double (FP.i2d (za 2))) .null (.int (0 : Int32)) (.int (1 : Int32)) :: own_CN (aa 1) (.double (FP.i2d (za 1))) .null (.int (0 : Int32)) (.int (1 : Int32)) :: own_CN (aa 0) (.double (FP.i2d (za 0))) .null (.int (0 : Int32)) (.int (1 : Int32)) :: []) ((ta104, .double, "[D", ((.double (FP.i2d (za k123))) :: (.double (0 : UInt64)) :: (.double (0 : UInt64)) :: (.double (0 : UInt64)) :: (.double (0 : UInt64)) :: (.double (0 : UInt64)) :: (List.replicate 58 (.double (0 : UInt64))))) :: (ca105, (.object "com/example/slotwise/slotwise/Simulation$Connection"), "[Lcom/example/slotwise/slotwise/Simulation$Connection;", ((.ref (aa k123)) :: .null :: .null :: .null :: .null :: .null :: (List.replicate 58 .null))) :: (a42, (.object "com/example/slotwise/slotwise/Simulation$Connection"), "[Lcom/example/slotwise/slotwise/Simulation$Connection;", [(.ref (aa 0)), (.ref (aa 1)), (.ref (aa 2)), (.ref (aa 3)), (.ref (aa 4)), (.ref (aa 5))]) :: (a3, .int, "[I", [(.int (za 0)), (.int (za 1)), (.int (za 2)), (.int (za 3)), (.int (za 4)), (.int (za 5))]) :: []) := H125
    refine own_iload K own_d11_321 rfl ?_
    refine own_iconst K own_d11_323 (v := (2 : Int32)) rfl ?_
    refine own_icmpgt K own_d11_324 (fun q => absurd q (by decide)) (fun _ => ?_)
    refine own_aload K own_d11_327 rfl rfl ?_
    refine own_aload K own_d11_329 rfl rfl ?_
    refine own_iconst K own_d11_331 (v := (2 : Int32)) rfl ?_
    refine own_aaload K own_d11_332 H125 (i := 2) rfl rfl (q := 2) (by decide) (rfl) ?_
    refine own_virtual K own_d11_333 (own_w43 hw) (own_w44 hw) (own_w46 hw) (own_w45 hw) (own_w32 hw) (own_w47 hw) (H125.atO (i := 0) rfl) (a := a99) (argsL := [(.ref (aa 2))]) (rest := []) (own_add1 hw (j := 2) (by rfl) H125 ho (by decide) ltk123 ) own_pd5 rfl rfl rfl (by decide) (W := 0) (Nat.le_of_eq rfl) (by decide) (by decide) (by decide) (by decide) ?_
    intro v129 h127 q128
    obtain ⟨rfl, k130, k131, pm132, hp134, ltk130, ltk131, H133⟩ := q128
    have PM135 : List.Perm [k109, k130, k131] [2, 1, 0] := ((List.Perm.append_left [k109] pm132).trans List.perm_middle).trans (List.Perm.cons 2 PM126)
    replace H133 : own_H Z h127 (own_DP a99 (.ref ta104) (.ref ca105) (.int (2 : Int32)) :: own_CN (aa 5) (.double (FP.i2d (za 5))) .null (.int (0 : Int32)) (.int (1 : Int32)) :: own_CN (aa 4) (.double (FP.i2d (za 4))) .null (.int (0 : Int32)) (.int (1 : Int32)) :: own_CN (aa 3) (.double (FP.i2d (za 3))) .null (.int (0 : Int32)) (.int (1 : Int32)) :: own_CN (aa 2) (.double (FP.i2d (za 2))) .null (.int (0 : Int32)) (.int (1 : Int32)) :: own_CN (aa 1) (.double (FP.i2d (za 1))) .null (.int (0 : Int32)) (.int (1 : Int32)) :: own_CN (aa 0) (.double (FP.i2d (za 0))) .null (.int (0 : Int32)) (.int (1 : Int32)) :: []) ((ta104, .double, "[D", ((.double (FP.i2d (za k130))) :: (.double (FP.i2d (za k131))) :: (.double (0 : UInt64)) :: (.double (0 : UInt64)) :: (.double (0 : UInt64)) :: (.double (0 : UInt64)) :: (List.replicate 58 (.double (0 : UInt64))))) :: (ca105, (.object "com/example/slotwise/slotwise/Simulation$Connection"), "[Lcom/example/slotwise/slotwise/Simulation$Connection;", ((.ref (aa k130)) :: (.ref (aa k131)) :: .null :: .null :: .null :: .null :: (List.replicate 58 .null))) :: (a42, (.object "com/example/slotwise/slotwise/Simulation$Connection"), "[Lcom/example/slotwise/slotwise/Simulation$Connection;", [(.ref (aa 0)), (.ref (aa 1)), (.ref (aa 2)), (.ref (aa 3)), (.ref (aa 4)), (.ref (aa 5))]) :: (a3, .int, "[I", [(.int (za 0)), (.int (za 1)), (.int (za 2)), (.int (za 3)), (.int (za 4)), (.int (za 5))]) :: []) := H133
    refine own_iload K own_d11_336 rfl ?_
    refine own_iconst K own_d11_338 (v := (3 : Int32)) rfl ?_
    refine own_icmpgt K own_d11_339 (fun q => absurd q (by decide)) (fun _ => ?_)
    refine own_aload K own_d11_342 rfl rfl ?_
    refine own_aload K own_d11_344 rfl rfl ?_
    refine own_iconst K own_d11_346 (v := (3 : Int32)) rfl ?_
    refine own_aaload K own_d11_347 H133 (i := 2) rfl rfl (q := 3) (by decide) (rfl) ?_
    refine own_virtual K own_d11_348 (own_w43 hw) (own_w44 hw) (own_w46 hw) (own_w45 hw) (own_w32 hw) (own_w47 hw) (H133.atO (i := 0) rfl) (a := a99) (argsL := [(.ref (aa 3))]) (rest := []) (own_add2 hw (j := 3) (by rfl) H133 ho (by decide) ltk130 ltk131 hp134) own_pd5 rfl rfl rfl (by decide) (W := 0) (Nat.le_of_eq rfl) (by decide) (by decide) (by decide) (by decide) ?_
    intro v138 h136 q137
    obtain ⟨rfl, k139, k140, k141, pm142, hp144, hp145, ltk139, ltk140, ltk141, H143⟩ := q137
    have PM146 : List.Perm [k109, k139, k140, k141] [3, 2, 1, 0] := ((List.Perm.append_left [k109] pm142).trans List.perm_middle).trans (List.Perm.cons 3 PM135)
    replace H143 : own_H Z h136 (own_DP a99 (.ref ta104) (.ref ca105) (.int (3 : Int32)) :: own_CN (aa 5) (.double (FP.i2d (za 5))) .null (.int (0 : Int32)) (.int (1 : Int32)) :: own_CN (aa 4) (.double (FP.i2d (za 4))) .null (.int (0 : Int32)) (.int (1 : Int32)) :: own_CN (aa 3) (.double (FP.i2d (za 3))) .null (.int (0 : Int32)) (.int (1 : Int32)) :: own_CN (aa 2) (.double (FP.i2d (za 2))) .null (.int (0 : Int32)) (.int (1 : Int32)) :: own_CN (aa 1) (.double (FP.i2d (za 1))) .null (.int (0 : Int32)) (.int (1 : Int32)) :: own_CN (aa 0) (.double (FP.i2d (za 0))) .null (.int (0 : Int32)) (.int (1 : Int32)) :: []) ((ta104, .double, "[D", ((.double (FP.i2d (za k139))) :: (.double (FP.i2d (za k140))) :: (.double (FP.i2d (za k141))) :: (.double (0 : UInt64)) :: (.double (0 : UInt64)) :: (.double (0 : UInt64)) :: (List.replicate 58 (.double (0 : UInt64))))) :: (ca105, (.object "com/example/slotwise/slotwise/Simulation$Connection"), "[Lcom/example/slotwise/slotwise/Simulation$Connection;", ((.ref (aa k139)) :: (.ref (aa k140)) :: (.ref (aa k141)) :: .null :: .null :: .null :: (List.replicate 58 .null))) :: (a42, (.object "com/example/slotwise/slotwise/Simulation$Connection"), "[Lcom/example/slotwise/slotwise/Simulation$Connection;", [(.ref (aa 0)), (.ref (aa 1)), (.ref (aa 2)), (.ref (aa 3)), (.ref (aa 4)), (.ref (aa 5))]) :: (a3, .int, "[I", [(.int (za 0)), (.int (za 1)), (.int (za 2)), (.int (za 3)), (.int (za 4)), (.int (za 5))]) :: []) := H143
    refine own_iload K own_d11_351 rfl ?_
    refine own_iconst K own_d11_353 (v := (4 : Int32)) rfl ?_
    refine own_icmpgt K own_d11_354 (fun q => absurd q (by decide)) (fun _ => ?_)
    refine own_aload K own_d11_357 rfl rfl ?_
    refine own_aload K own_d11_359 rfl rfl ?_
    refine own_iconst K own_d11_361 (v := (4 : Int32)) rfl ?_
    refine own_aaload K own_d11_362 H143 (i := 2) rfl rfl (q := 4) (by decide) (rfl) ?_
    refine own_virtual K own_d11_363 (own_w43 hw) (own_w44 hw) (own_w46 hw) (own_w45 hw) (own_w32 hw) (own_w47 hw) (H143.atO (i := 0) rfl) (a := a99) (argsL := [(.ref (aa 4))]) (rest := []) (own_add3 hw (j := 4) (by rfl) H143 ho (by decide) ltk139 ltk140 ltk141 hp144 hp145) own_pd5 rfl rfl rfl (by decide) (W := 0) (Nat.le_of_eq rfl) (by decide) (by decide) (by decide) (by decide) ?_
    intro v149 h147 q148
    obtain ⟨rfl, k150, k151, k152, k153, pm154, hp156, hp157, hp158, ltk150, ltk151, ltk152, ltk153, H155⟩ := q148
    have PM159 : List.Perm [k109, k150, k151, k152, k153] [4, 3, 2, 1, 0] := ((List.Perm.append_left [k109] pm154).trans List.perm_middle).trans (List.Perm.cons 4 PM146)
    replace H155 : own_H Z h147 (own_DP a99 (.ref ta104) (.ref ca105) (.int (4 : Int32)) :: own_CN (aa 5) (.double (FP.i2d (za 5))) .null (.int (0 : Int32)) (.int (1 : Int32)) :: own_CN (aa 4) (.double (FP.i2d (za 4))) .null (.int (0 : Int32)) (.int (1 : Int32)) :: own_CN (aa 3) (.double (FP.i2d (za 3))) .null (.int (0 : Int32)) (.int (1 : Int32)) :: own_CN (aa 2) (.double (FP.i2d (za 2))) .null (.int (0 : Int32)) (.int (1 : Int32)) :: own_CN (aa 1) (.double (FP.i2d (za 1))) .null (.int (0 : Int32)) (.int (1 : Int32)) :: own_CN (aa 0) (.double (FP.i2d (za 0))) .null (.int (0 : Int32)) (.int (1 : Int32)) :: []) ((ta104, .double, "[D", ((.double (FP.i2d (za k150))) :: (.double (FP.i2d (za k151))) :: (.double (FP.i2d (za k152))) :: (.double (FP.i2d (za k153))) :: (.double (0 : UInt64)) :: (.double (0 : UInt64)) :: (List.replicate 58 (.double (0 : UInt64))))) :: (ca105, (.object "com/example/slotwise/slotwise/Simulation$Connection"), "[Lcom/example/slotwise/slotwise/Simulation$Connection;", ((.ref (aa k150)) :: (.ref (aa k151)) :: (.ref (aa k152)) :: (.ref (aa k153)) :: .null :: .null :: (List.replicate 58 .null))) :: (a42, (.object "com/example/slotwise/slotwise/Simulation$Connection"), "[Lcom/example/slotwise/slotwise/Simulation$Connection;", [(.ref (aa 0)), (.ref (aa 1)), (.ref (aa 2)), (.ref (aa 3)), (.ref (aa 4)), (.ref (aa 5))]) :: (a3, .int, "[I", [(.int (za 0)), (.int (za 1)), (.int (za 2)), (.int (za 3)), (.int (za 4)), (.int (za 5))]) :: []) := H155
    refine own_iload K own_d11_366 rfl ?_
    refine own_iconst K own_d11_368 (v := (5 : Int32)) rfl ?_
    refine own_icmpgt K own_d11_369 (fun q => absurd q (by decide)) (fun _ => ?_)
    refine own_aload K own_d11_372 rfl rfl ?_
    refine own_aload K own_d11_374 rfl rfl ?_
    refine own_iconst K own_d11_376 (v := (5 : Int32)) rfl ?_
    refine own_aaload K own_d11_377 H155 (i := 2) rfl rfl (q := 5) (by decide) (rfl) ?_
    refine own_virtual K own_d11_378 (own_w43 hw) (own_w44 hw) (own_w46 hw) (own_w45 hw) (own_w32 hw) (own_w47 hw) (H155.atO (i := 0) rfl) (a := a99) (argsL := [(.ref (aa 5))]) (rest := []) (own_add4 hw (j := 5) (by rfl) H155 ho (by decide) ltk150 ltk151 ltk152 ltk153 hp156 hp157 hp158) own_pd5 rfl rfl rfl (by decide) (W := 0) (Nat.le_of_eq rfl) (by decide) (by decide) (by decide) (by decide) ?_
    intro v162 h160 q161
    obtain ⟨rfl, k163, k164, k165, k166, k167, pm168, hp170, hp171, hp172, hp173, ltk163, ltk164, ltk165, ltk166, ltk167, H169⟩ := q161
    have PM174 : List.Perm [k109, k163, k164, k165, k166, k167] [5, 4, 3, 2, 1, 0] := ((List.Perm.append_left [k109] pm168).trans List.perm_middle).trans (List.Perm.cons 5 PM159)
    replace H169 : own_H Z h160 (own_DP a99 (.ref ta104) (.ref ca105) (.int (5 : Int32)) :: own_CN (aa 5) (.double (FP.i2d (za 5))) .null (.int (0 : Int32)) (.int (1 : Int32)) :: own_CN (aa 4) (.double (FP.i2d (za 4))) .null (.int (0 : Int32)) (.int (1 : Int32)) :: own_CN (aa 3) (.double (FP.i2d (za 3))) .null (.int (0 : Int32)) (.int (1 : Int32)) :: own_CN (aa 2) (.double (FP.i2d (za 2))) .null (.int (0 : Int32)) (.int (1 : Int32)) :: own_CN (aa 1) (.double (FP.i2d (za 1))) .null (.int (0 : Int32)) (.int (1 : Int32)) :: own_CN (aa 0) (.double (FP.i2d (za 0))) .null (.int (0 : Int32)) (.int (1 : Int32)) :: []) ((ta104, .double, "[D", ((.double (FP.i2d (za k163))) :: (.double (FP.i2d (za k164))) :: (.double (FP.i2d (za k165))) :: (.double (FP.i2d (za k166))) :: (.double (FP.i2d (za k167))) :: (.double (0 : UInt64)) :: (List.replicate 58 (.double (0 : UInt64))))) :: (ca105, (.object "com/example/slotwise/slotwise/Simulation$Connection"), "[Lcom/example/slotwise/slotwise/Simulation$Connection;", ((.ref (aa k163)) :: (.ref (aa k164)) :: (.ref (aa k165)) :: (.ref (aa k166)) :: (.ref (aa k167)) :: .null :: (List.replicate 58 .null))) :: (a42, (.object "com/example/slotwise/slotwise/Simulation$Connection"), "[Lcom/example/slotwise/slotwise/Simulation$Connection;", [(.ref (aa 0)), (.ref (aa 1)), (.ref (aa 2)), (.ref (aa 3)), (.ref (aa 4)), (.ref (aa 5))]) :: (a3, .int, "[I", [(.int (za 0)), (.int (za 1)), (.int (za 2)), (.int (za 3)), (.int (za 4)), (.int (za 5))]) :: []) := H169
    refine own_aload K own_d11_381 rfl rfl ?_
    refine own_virtual K own_d11_383 (own_w55 hw) (own_w56 hw) (own_w58 hw) (own_w57 hw) (own_w32 hw) (own_w59 hw) (H169.atO (i := 0) rfl) (a := a99) (argsL := []) (rest := []) (own_poll5 hw H169 ho ltk163 ltk164 ltk165 ltk166 ltk167 hp170 hp171 hp172 hp173) own_pd6 rfl rfl rfl (by decide) (W := 0) (Nat.le_of_eq rfl) (by decide) (by decide) (by decide) (by decide) ?_
    intro v177 h175 q176
    obtain ⟨rfl, k178, k179, k180, k181, pm182, hp184, hp185, hp186, le187, ltk178, ltk179, ltk180, ltk181, H183⟩ := q176
    have PM188 : List.Perm [k109, k163, k178, k179, k180, k181] [5, 4, 3, 2, 1, 0] := (List.Perm.append_left [k109] (List.Perm.cons k163 pm182)).trans PM174
    replace H183 : own_H Z h175 (own_DP a99 (.ref ta104) (.ref ca105) (.int (4 : Int32)) :: own_CN (aa 5) (.double (FP.i2d (za 5))) .null (.int (0 : Int32)) (.int (1 : Int32)) :: own_CN (aa 4) (.double (FP.i2d (za 4))) .null (.int (0 : Int32)) (.int (1 : Int32)) :: own_CN (aa 3) (.double (FP.i2d (za 3))) .null (.int (0 : Int32)) (.int (1 : Int32)) :: own_CN (aa 2) (.double (FP.i2d (za 2))) .null (.int (0 : Int32)) (.int (1 : Int32)) :: own_CN (aa 1) (.double (FP.i2d (za 1))) .null (.int (0 : Int32)) (.int (1 : Int32)) :: own_CN (aa 0) (.double (FP.i2d (za 0))) .null (.int (0 : Int32)) (.int (1 : Int32)) :: []) ((ta104, .double, "[D", ((.double (FP.i2d (za k178))) :: (.double (FP.i2d (za k179))) :: (.double (FP.i2d (za k180))) :: (.double (FP.i2d (za k181))) :: (.double (FP.i2d (za k167))) :: (.double (0 : UInt64)) :: (List.replicate 58 (.double (0 : UInt64))))) :: (ca105, (.object "com/example/slotwise/slotwise/Simulation$Connection"), "[Lcom/example/slotwise/slotwise/Simulation$Connection;", ((.ref (aa k178)) :: (.ref (aa k179)) :: (.ref (aa k180)) :: (.ref (aa k181)) :: .null :: .null :: (List.replicate 58 .null))) :: (a42, (.object "com/example/slotwise/slotwise/Simulation$Connection"), "[Lcom/example/slotwise/slotwise/Simulation$Connection;", [(.ref (aa 0)), (.ref (aa 1)), (.ref (aa 2)), (.ref (aa 3)), (.ref (aa 4)), (.ref (aa 5))]) :: (a3, .int, "[I", [(.int (za 0)), (.int (za 1)), (.int (za 2)), (.int (za 3)), (.int (za 4)), (.int (za 5))]) :: []) := H183
    refine own_astore K own_d11_386 rfl (Ls' := #[.val (.long pk), .second, .val (.int mo), .val (.ref a3), .val (.ref a42), .val (.int (3 : Int32)), .val (.int (1 : Int32)), .val (.ref a99), .val (.ref (aa k109)), .val (.ref (aa k163)), .unset, .unset, .unset, .unset, .unset, .unset, .unset, .unset, .unset, .unset, .unset, .unset, .unset, .unset, .unset, .unset, .unset]) rfl ?_
    refine own_aload K own_d11_388 rfl rfl ?_
    refine own_virtual K own_d11_390 (own_w55 hw) (own_w56 hw) (own_w58 hw) (own_w57 hw) (own_w32 hw) (own_w59 hw) (H183.atO (i := 0) rfl) (a := a99) (argsL := []) (rest := []) (own_poll4 hw H183 ho ltk178 ltk179 ltk180 ltk181 hp184 hp185 hp186) own_pd6 rfl rfl rfl (by decide) (W := 0) (Nat.le_of_eq rfl) (by decide) (by decide) (by decide) (by decide) ?_
    intro v191 h189 q190
    obtain ⟨rfl, k192, k193, k194, pm195, hp197, hp198, le199, ltk192, ltk193, ltk194, H196⟩ := q190
    have PM200 : List.Perm [k109, k163, k178, k192, k193, k194] [5, 4, 3, 2, 1, 0] := (List.Perm.append_left [k109, k163] (List.Perm.cons k178 pm195)).trans PM188
    replace H196 : own_H Z h189 (own_DP a99 (.ref ta104) (.ref ca105) (.int (3 : Int32)) :: own_CN (aa 5) (.double (FP.i2d (za 5))) .null (.int (0 : Int32)) (.int (1 : Int32)) :: own_CN (aa 4) (.double (FP.i2d (za 4))) .null (.int (0 : Int32)) (.int (1 : Int32)) :: own_CN (aa 3) (.double (FP.i2d (za 3))) .null (.int (0 : Int32)) (.int (1 : Int32)) :: own_CN (aa 2) (.double (FP.i2d (za 2))) .null (.int (0 : Int32)) (.int (1 : Int32)) :: own_CN (aa 1) (.double (FP.i2d (za 1))) .null (.int (0 : Int32)) (.int (1 : Int32)) :: own_CN (aa 0) (.double (FP.i2d (za 0))) .null (.int (0 : Int32)) (.int (1 : Int32)) :: []) ((ta104, .double, "[D", ((.double (FP.i2d (za k192))) :: (.double (FP.i2d (za k193))) :: (.double (FP.i2d (za k194))) :: (.double (FP.i2d (za k181))) :: (.double (FP.i2d (za k167))) :: (.double (0 : UInt64)) :: (List.replicate 58 (.double (0 : UInt64))))) :: (ca105, (.object "com/example/slotwise/slotwise/Simulation$Connection"), "[Lcom/example/slotwise/slotwise/Simulation$Connection;", ((.ref (aa k192)) :: (.ref (aa k193)) :: (.ref (aa k194)) :: .null :: .null :: .null :: (List.replicate 58 .null))) :: (a42, (.object "com/example/slotwise/slotwise/Simulation$Connection"), "[Lcom/example/slotwise/slotwise/Simulation$Connection;", [(.ref (aa 0)), (.ref (aa 1)), (.ref (aa 2)), (.ref (aa 3)), (.ref (aa 4)), (.ref (aa 5))]) :: (a3, .int, "[I", [(.int (za 0)), (.int (za 1)), (.int (za 2)), (.int (za 3)), (.int (za 4)), (.int (za 5))]) :: []) := H196
    refine own_astore K own_d11_393 rfl (Ls' := #[.val (.long pk), .second, .val (.int mo), .val (.ref a3), .val (.ref a42), .val (.int (3 : Int32)), .val (.int (1 : Int32)), .val (.ref a99), .val (.ref (aa k109)), .val (.ref (aa k163)), .val (.ref (aa k178)), .unset, .unset, .unset, .unset, .unset, .unset, .unset, .unset, .unset, .unset, .unset, .unset, .unset, .unset, .unset, .unset]) rfl ?_
    refine own_aload K own_d11_395 rfl rfl ?_
    refine own_virtual K own_d11_397 (own_w55 hw) (own_w56 hw) (own_w58 hw) (own_w57 hw) (own_w32 hw) (own_w59 hw) (H196.atO (i := 0) rfl) (a := a99) (argsL := []) (rest := []) (own_poll3 hw H196 ho ltk192 ltk193 ltk194 hp197 hp198) own_pd6 rfl rfl rfl (by decide) (W := 0) (Nat.le_of_eq rfl) (by decide) (by decide) (by decide) (by decide) ?_
    intro v203 h201 q202
    obtain ⟨rfl, k204, k205, pm206, hp208, le209, ltk204, ltk205, H207⟩ := q202
    have PM210 : List.Perm [k109, k163, k178, k192, k204, k205] [5, 4, 3, 2, 1, 0] := (List.Perm.append_left [k109, k163, k178] (List.Perm.cons k192 pm206)).trans PM200
    replace H207 : own_H Z h201 (own_DP a99 (.ref ta104) (.ref ca105) (.int (2 : Int32)) :: own_CN (aa 5) (.double (FP.i2d (za 5))) .null (.int (0 : Int32)) (.int (1 : Int32)) :: own_CN (aa 4) (.double (FP.i2d (za 4))) .null (.int (0 : Int32)) (.int (1 : Int32)) :: own_CN (aa 3) (.double (FP.i2d (za 3))) .null (.int (0 : Int32)) (.int (1 : Int32)) :: own_CN (aa 2) (.double (FP.i2d (za 2))) .null (.int (0 : Int32)) (.int (1 : Int32)) :: own_CN (aa 1) (.double (FP.i2d (za 1))) .null (.int (0 : Int32)) (.int (1 : Int32)) :: own_CN (aa 0) (.double (FP.i2d (za 0))) .null (.int (0 : Int32)) (.int (1 : Int32)) :: []) ((ta104, .double, "[D", ((.double (FP.i2d (za k204))) :: (.double (FP.i2d (za k205))) :: (.double (FP.i2d (za k194))) :: (.double (FP.i2d (za k181))) :: (.double (FP.i2d (za k167))) :: (.double (0 : UInt64)) :: (List.replicate 58 (.double (0 : UInt64))))) :: (ca105, (.object "com/example/slotwise/slotwise/Simulation$Connection"), "[Lcom/example/slotwise/slotwise/Simulation$Connection;", ((.ref (aa k204)) :: (.ref (aa k205)) :: .null :: .null :: .null :: .null :: (List.replicate 58 .null))) :: (a42, (.object "com/example/slotwise/slotwise/Simulation$Connection"), "[Lcom/example/slotwise/slotwise/Simulation$Connection;", [(.ref (aa 0)), (.ref (aa 1)), (.ref (aa 2)), (.ref (aa 3)), (.ref (aa 4)), (.ref (aa 5))]) :: (a3, .int, "[I", [(.int (za 0)), (.int (za 1)), (.int (za 2)), (.int (za 3)), (.int (za 4)), (.int (za 5))]) :: []) := H207
    refine own_astore K own_d11_400 rfl (Ls' := #[.val (.long pk), .second, .val (.int mo), .val (.ref a3), .val (.ref a42), .val (.int (3 : Int32)), .val (.int (1 : Int32)), .val (.ref a99), .val (.ref (aa k109)), .val (.ref (aa k163)), .val (.ref (aa k178)), .val (.ref (aa k192)), .unset, .unset, .unset, .unset, .unset, .unset, .unset, .unset, .unset, .unset, .unset, .unset, .unset, .unset, .unset]) rfl ?_
    refine own_aload K own_d11_402 rfl rfl ?_
    refine own_virtual K own_d11_404 (own_w55 hw) (own_w56 hw) (own_w58 hw) (own_w57 hw) (own_w32 hw) (own_w59 hw) (H207.atO (i := 0) rfl) (a := a99) (argsL := []) (rest := []) (own_poll2 hw H207 ho ltk204 ltk205 hp208) own_pd6 rfl rfl rfl (by decide) (W := 0) (Nat.le_of_eq rfl) (by decide) (by decide) (by decide) (by decide) ?_
    intro v213 h211 q212
    obtain ⟨rfl, k214, pm215, le217, ltk214, H216⟩ := q212
    have PM218 : List.Perm [k109, k163, k178, k192, k204, k214] [5, 4, 3, 2, 1, 0] := (List.Perm.append_left [k109, k163, k178, k192] (List.Perm.cons k204 pm215)).trans PM210
    replace H216 : own_H Z h211 (own_DP a99 (.ref ta104) (.ref ca105) (.int (1 : Int32)) :: own_CN (aa 5) (.double (FP.i2d (za 5))) .null (.int (0 : Int32)) (.int (1 : Int32)) :: own_CN (aa 4) (.double (FP.i2d (za 4))) .null (.int (0 : Int32)) (.int (1 : Int32)) :: own_CN (aa 3) (.double (FP.i2d (za 3))) .null (.int (0 : Int32)) (.int (1 : Int32)) :: own_CN (aa 2) (.double (FP.i2d (za 2))) .null (.int (0 : Int32)) (.int (1 : Int32)) :: own_CN (aa 1) (.double (FP.i2d (za 1))) .null (.int (0 : Int32)) (.int (1 : Int32)) :: own_CN (aa 0) (.double (FP.i2d (za 0))) .null (.int (0 : Int32)) (.int (1 : Int32)) :: []) ((ta104, .double, "[D", ((.double (FP.i2d (za k214))) :: (.double (FP.i2d (za k205))) :: (.double (FP.i2d (za k194))) :: (.double (FP.i2d (za k181))) :: (.double (FP.i2d (za k167))) :: (.double (0 : UInt64)) :: (List.replicate 58 (.double (0 : UInt64))))) :: (ca105, (.object "com/example/slotwise/slotwise/Simulation$Connection"), "[Lcom/example/slotwise/slotwise/Simulation$Connection;", ((.ref (aa k214)) :: .null :: .null :: .null :: .null :: .null :: (List.replicate 58 .null))) :: (a42, (.object "com/example/slotwise/slotwise/Simulation$Connection"), "[Lcom/example/slotwise/slotwise/Simulation$Connection;", [(.ref (aa 0)), (.ref (aa 1)), (.ref (aa 2)), (.ref (aa 3)), (.ref (aa 4)), (.ref (aa 5))]) :: (a3, .int, "[I", [(.int (za 0)), (.int (za 1)), (.int (za 2)), (.int (za 3)), (.int (za 4)), (.int (za 5))]) :: []) := H216
    refine own_astore K own_d11_407 rfl (Ls' := #[.val (.long pk), .second, .val (.int mo), .val (.ref a3), .val (.ref a42), .val (.int (3 : Int32)), .val (.int (1 : Int32)), .val (.ref a99), .val (.ref (aa k109)), .val (.ref (aa k163)), .val (.ref (aa k178)), .val (.ref (aa k192)), .val (.ref (aa k204)), .unset, .unset, .unset, .unset, .unset, .unset, .unset, .unset, .unset, .unset, .unset, .unset, .unset, .unset]) rfl ?_
    refine own_aload K own_d11_409 rfl rfl ?_
    refine own_virtual K own_d11_411 (own_w55 hw) (own_w56 hw) (own_w58 hw) (own_w57 hw) (own_w32 hw) (own_w59 hw) (H216.atO (i := 0) rfl) (a := a99) (argsL := []) (rest := []) (own_poll1 hw H216 ho ltk214 ) own_pd6 rfl rfl rfl (by decide) (W := 0) (Nat.le_of_eq rfl) (by decide) (by decide) (by decide) (by decide) ?_
    intro v221 h219 q220
    obtain ⟨rfl, H223⟩ := q220
    have PM225 : List.Perm [k109, k163, k178, k192, k204, k214] [5, 4, 3, 2, 1, 0] := (List.Perm.append_left [k109, k163, k178, k192, k204] (List.Perm.cons k214 List.Perm.nil)).trans PM218
    replace H223 : own_H Z h219 (own_DP a99 (.ref ta104) (.ref ca105) (.int (0 : Int32)) :: own_CN (aa 5) (.double (FP.i2d (za 5))) .null (.int (0 : Int32)) (.int (1 : Int32)) :: own_CN (aa 4) (.double (FP.i2d (za 4))) .null (.int (0 : Int32)) (.int (1 : Int32)) :: own_CN (aa 3) (.double (FP.i2d (za 3))) .null (.int (0 : Int32)) (.int (1 : Int32)) :: own_CN (aa 2) (.double (FP.i2d (za 2))) .null (.int (0 : Int32)) (.int (1 : Int32)) :: own_CN (aa 1) (.double (FP.i2d (za 1))) .null (.int (0 : Int32)) (.int (1 : Int32)) :: own_CN (aa 0) (.double (FP.i2d (za 0))) .null (.int (0 : Int32)) (.int (1 : Int32)) :: []) ((ta104, .double, "[D", ((.double (FP.i2d (za k214))) :: (.double (FP.i2d (za k205))) :: (.double (FP.i2d (za k194))) :: (.double (FP.i2d (za k181))) :: (.double (FP.i2d (za k167))) :: (.double (0 : UInt64)) :: (List.replicate 58 (.double (0 : UInt64))))) :: (ca105, (.object "com/example/slotwise/slotwise/Simulation$Connection"), "[Lcom/example/slotwise/slotwise/Simulation$Connection;", (.null :: .null :: .null :: .null :: .null :: .null :: (List.replicate 58 .null))) :: (a42, (.object "com/example/slotwise/slotwise/Simulation$Connection"), "[Lcom/example/slotwise/slotwise/Simulation$Connection;", [(.ref (aa 0)), (.ref (aa 1)), (.ref (aa 2)), (.ref (aa 3)), (.ref (aa 4)), (.ref (aa 5))]) :: (a3, .int, "[I", [(.int (za 0)), (.int (za 1)), (.int (za 2)), (.int (za 3)), (.int (za 4)), (.int (za 5))]) :: []) := H223
    refine own_astore K own_d11_414 rfl (Ls' := #[.val (.long pk), .second, .val (.int mo), .val (.ref a3), .val (.ref a42), .val (.int (3 : Int32)), .val (.int (1 : Int32)), .val (.ref a99), .val (.ref (aa k109)), .val (.ref (aa k163)), .val (.ref (aa k178)), .val (.ref (aa k192)), .val (.ref (aa k204)), .val (.ref (aa k214)), .unset, .unset, .unset, .unset, .unset, .unset, .unset, .unset, .unset, .unset, .unset, .unset, .unset]) rfl ?_
    refine own_aload K own_d11_416 rfl rfl ?_
    refine own_virtual K own_d11_418 (own_w60 hw) (own_w61 hw) (own_w63 hw) (own_w62 hw) (own_w32 hw) (own_w64 hw) (H223.atO (i := 0) rfl) (a := a99) (argsL := []) (rest := []) (own_emp hw H223) own_pd7 rfl rfl rfl (by decide) (W := 0) (Nat.le_of_eq rfl) (by decide) (by decide) (by decide) (by decide) ?_
    intro v228 h226 q227
    obtain ⟨rfl, rfl⟩ := q227
    refine own_istore K own_d11_421 (Ls' := #[.val (.long pk), .second, .val (.int mo), .val (.ref a3), .val (.ref a42), .val (.int (3 : Int32)), .val (.int (1 : Int32)), .val (.ref a99), .val (.ref (aa k109)), .val (.ref (aa k163)), .val (.ref (aa k178)), .val (.ref (aa k192)), .val (.ref (aa k204)), .val (.ref (aa k214)), .val (.int (1 : Int32)), .unset, .unset, .unset, .unset, .unset, .unset, .unset, .unset, .unset, .unset, .unset, .unset]) rfl ?_
    refine own_aload K own_d11_423 rfl rfl ?_
    refine own_aload K own_d11_425 rfl rfl ?_
    have H229 := H223.frontA 2 rfl
    replace H229 : own_H Z h219 (own_DP a99 (.ref ta104) (.ref ca105) (.int (0 : Int32)) :: own_CN (aa 5) (.double (FP.i2d (za 5))) .null (.int (0 : Int32)) (.int (1 : Int32)) :: own_CN (aa 4) (.double (FP.i2d (za 4))) .null (.int (0 : Int32)) (.int (1 : Int32)) :: own_CN (aa 3) (.double (FP.i2d (za 3))) .null (.int (0 : Int32)) (.int (1 : Int32)) :: own_CN (aa 2) (.double (FP.i2d (za 2))) .null (.int (0 : Int32)) (.int (1 : Int32)) :: own_CN (aa 1) (.double (FP.i2d (za 1))) .null (.int (0 : Int32)) (.int (1 : Int32)) :: own_CN (aa 0) (.double (FP.i2d (za 0))) .null (.int (0 : Int32)) (.int (1 : Int32)) :: []) ((a42, (.object "com/example/slotwise/slotwise/Simulation$Connection"), "[Lcom/example/slotwise/slotwise/Simulation$Connection;", [(.ref (aa 0)), (.ref (aa 1)), (.ref (aa 2)), (.ref (aa 3)), (.ref (aa 4)), (.ref (aa 5))]) :: (ta104, .double, "[D", ((.double (FP.i2d (za k214))) :: (.double (FP.i2d (za k205))) :: (.double (FP.i2d (za k194))) :: (.double (FP.i2d (za k181))) :: (.double (FP.i2d (za k167))) :: (.double (0 : UInt64)) :: (List.replicate 58 (.double (0 : UInt64))))) :: (ca105, (.object "com/example/slotwise/slotwise/Simulation$Connection"), "[Lcom/example/slotwise/slotwise/Simulation$Connection;", (.null :: .null :: .null :: .null :: .null :: .null :: (List.replicate 58 .null))) :: (a3, .int, "[I", [(.int (za 0)), (.int (za 1)), (.int (za 2)), (.int (za 3)), (.int (za 4)), (.int (za 5))]) :: []) := H229
    refine own_static K own_d11_427 (own_w65 hw) (own_w66 hw) (own_w3 hw) (own_w67 hw) (argsL := [(.ref (aa k109)), (.ref a42)]) (rest := []) (own_idx hw H229 hne ltk109) own_pd8 rfl rfl rfl (by decide) (W := 0) (Nat.le_of_eq rfl) (by decide) (by decide) (by decide) (by decide) ?_
    intro v232 h230 q231
    obtain ⟨rfl, rfl⟩ := q231
    refine own_istore K own_d11_430 (Ls' := #[.val (.long pk), .second, .val (.int mo), .val (.ref a3), .val (.ref a42), .val (.int (3 : Int32)), .val (.int (1 : Int32)), .val (.ref a99), .val (.ref (aa k109)), .val (.ref (aa k163)), .val (.ref (aa k178)), .val (.ref (aa k192)), .val (.ref (aa k204)), .val (.ref (aa k214)), .val (.int (1 : Int32)), .val (.int (Int32.ofNat k109)), .unset, .unset, .unset, .unset, .unset, .unset, .unset, .unset, .unset, .unset, .unset]) rfl ?_
    refine own_aload K own_d11_432 rfl rfl ?_
    refine own_aload K own_d11_434 rfl rfl ?_
    refine own_static K own_d11_436 (own_w65 hw) (own_w66 hw) (own_w3 hw) (own_w67 hw) (argsL := [(.ref (aa k163)), (.ref a42)]) (rest := []) (own_idx hw H229 hne ltk163) own_pd8 rfl rfl rfl (by decide) (W := 0) (Nat.le_of_eq rfl) (by decide) (by decide) (by decide) (by decide) ?_
    intro v235 h233 q234
    obtain ⟨rfl, rfl⟩ := q234
    refine own_istore K own_d11_439 (Ls' := #[.val (.long pk), .second, .val (.int mo), .val (.ref a3), .val (.ref a42), .val (.int (3 : Int32)), .val (.int (1 : Int32)), .val (.ref a99), .val (.ref (aa k109)), .val (.ref (aa k163)), .val (.ref (aa k178)), .val (.ref (aa k192)), .val (.ref (aa k204)), .val (.ref (aa k214)), .val (.int (1 : Int32)), .val (.int (Int32.ofNat k109)), .val (.int (Int32.ofNat k163)), .unset, .unset, .unset, .unset, .unset, .unset, .unset, .unset, .unset, .unset]) rfl ?_
    refine own_aload K own_d11_441 rfl rfl ?_
    refine own_aload K own_d11_443 rfl rfl ?_
    refine own_static K own_d11_445 (own_w65 hw) (own_w66 hw) (own_w3 hw) (own_w67 hw) (argsL := [(.ref (aa k178)), (.ref a42)]) (rest := []) (own_idx hw H229 hne ltk178) own_pd8 rfl rfl rfl (by decide) (W := 0) (Nat.le_of_eq rfl) (by decide) (by decide) (by decide) (by decide) ?_
    intro v238 h236 q237
    obtain ⟨rfl, rfl⟩ := q237
    refine own_istore K own_d11_448 (Ls' := #[.val (.long pk), .second, .val (.int mo), .val (.ref a3), .val (.ref a42), .val (.int (3 : Int32)), .val (.int (1 : Int32)), .val (.ref a99), .val (.ref (aa k109)), .val (.ref (aa k163)), .val (.ref (aa k178)), .val (.ref (aa k192)), .val (.ref (aa k204)), .val (.ref (aa k214)), .val (.int (1 : Int32)), .val (.int (Int32.ofNat k109)), .val (.int (Int32.ofNat k163)), .val (.int (Int32.ofNat k178)), .unset, .unset, .unset, .unset, .unset, .unset, .unset, .unset, .unset]) rfl ?_
    refine own_aload K own_d11_450 rfl rfl ?_
    refine own_aload K own_d11_452 rfl rfl ?_
    refine own_static K own_d11_454 (own_w65 hw) (own_w66 hw) (own_w3 hw) (own_w67 hw) (argsL := [(.ref (aa k192)), (.ref a42)]) (rest := []) (own_idx hw H229 hne ltk192) own_pd8 rfl rfl rfl (by decide) (W := 0) (Nat.le_of_eq rfl) (by decide) (by decide) (by decide) (by decide) ?_
    intro v241 h239 q240
    obtain ⟨rfl, rfl⟩ := q240
    refine own_istore K own_d11_457 (Ls' := #[.val (.long pk), .second, .val (.int mo), .val (.ref a3), .val (.ref a42), .val (.int (3 : Int32)), .val (.int (1 : Int32)), .val (.ref a99), .val (.ref (aa k109)), .val (.ref (aa k163)), .val (.ref (aa k178)), .val (.ref (aa k192)), .val (.ref (aa k204)), .val (.ref (aa k214)), .val (.int (1 : Int32)), .val (.int (Int32.ofNat k109)), .val (.int (Int32.ofNat k163)), .val (.int (Int32.ofNat k178)), .val (.int (Int32.ofNat k192)), .unset, .unset, .unset, .unset, .unset, .unset, .unset, .unset]) rfl ?_
    refine own_aload K own_d11_459 rfl rfl ?_
    refine own_aload K own_d11_461 rfl rfl ?_
    refine own_static K own_d11_463 (own_w65 hw) (own_w66 hw) (own_w3 hw) (own_w67 hw) (argsL := [(.ref (aa k204)), (.ref a42)]) (rest := []) (own_idx hw H229 hne ltk204) own_pd8 rfl rfl rfl (by decide) (W := 0) (Nat.le_of_eq rfl) (by decide) (by decide) (by decide) (by decide) ?_
    intro v244 h242 q243
    obtain ⟨rfl, rfl⟩ := q243
    refine own_istore K own_d11_466 (Ls' := #[.val (.long pk), .second, .val (.int mo), .val (.ref a3), .val (.ref a42), .val (.int (3 : Int32)), .val (.int (1 : Int32)), .val (.ref a99), .val (.ref (aa k109)), .val (.ref (aa k163)), .val (.ref (aa k178)), .val (.ref (aa k192)), .val (.ref (aa k204)), .val (.ref (aa k214)), .val (.int (1 : Int32)), .val (.int (Int32.ofNat k109)), .val (.int (Int32.ofNat k163)), .val (.int (Int32.ofNat k178)), .val (.int (Int32.ofNat k192)), .val (.int (Int32.ofNat k204)), .unset, .unset, .unset, .unset, .unset, .unset, .unset]) rfl ?_
    refine own_aload K own_d11_468 rfl rfl ?_
    refine own_aload K own_d11_470 rfl rfl ?_
    refine own_static K own_d11_472 (own_w65 hw) (own_w66 hw) (own_w3 hw) (own_w67 hw) (argsL := [(.ref (aa k214)), (.ref a42)]) (rest := []) (own_idx hw H229 hne ltk214) own_pd8 rfl rfl rfl (by decide) (W := 0) (Nat.le_of_eq rfl) (by decide) (by decide) (by decide) (by decide) ?_
    intro v247 h245 q246
    obtain ⟨rfl, rfl⟩ := q246
    refine own_istore K own_d11_475 (Ls' := #[.val (.long pk), .second, .val (.int mo), .val (.ref a3), .val (.ref a42), .val (.int (3 : Int32)), .val (.int (1 : Int32)), .val (.ref a99), .val (.ref (aa k109)), .val (.ref (aa k163)), .val (.ref (aa k178)), .val (.ref (aa k192)), .val (.ref (aa k204)), .val (.ref (aa k214)), .val (.int (1 : Int32)), .val (.int (Int32.ofNat k109)), .val (.int (Int32.ofNat k163)), .val (.int (Int32.ofNat k178)), .val (.int (Int32.ofNat k192)), .val (.int (Int32.ofNat k204)), .val (.int (Int32.ofNat k214)), .unset, .unset, .unset, .unset, .unset, .unset]) rfl ?_
    refine own_iload K own_d11_477 rfl ?_
    refine own_iflt K own_d11_479 (fun q => absurd q (by rw [own_oN ltk109]; omega)) (fun _ => ?_)
    refine own_iload K own_d11_482 rfl ?_
    refine own_iflt K own_d11_484 (fun q => absurd q (by rw [own_oN ltk163]; omega)) (fun _ => ?_)
    refine own_iload K own_d11_487 rfl ?_
    refine own_iflt K own_d11_489 (fun q => absurd q (by rw [own_oN ltk178]; omega)) (fun _ => ?_)
    refine own_iload K own_d11_492 rfl ?_
    refine own_iflt K own_d11_494 (fun q => absurd q (by rw [own_oN ltk192]; omega)) (fun _ => ?_)
    refine own_iload K own_d11_497 rfl ?_
    refine own_iflt K own_d11_499 (fun q => absurd q (by rw [own_oN ltk204]; omega)) (fun _ => ?_)
    refine own_iload K own_d11_502 rfl ?_
    refine own_ifge K own_d11_504 (fun _ => ?_) (fun q => absurd (by rw [own_oN ltk214]; omega) q)
    refine own_iconst K own_d11_509 (v := (1 : Int32)) rfl ?_
    refine own_iload K own_d11_510 rfl ?_
    refine own_ishl K own_d11_512 ?_
    refine own_iconst K own_d11_513 (v := (1 : Int32)) rfl ?_
    refine own_iload K own_d11_514 rfl ?_
    refine own_ishl K own_d11_516 ?_
    refine own_ior K own_d11_517 ?_
    refine own_iconst K own_d11_518 (v := (1 : Int32)) rfl ?_
    refine own_iload K own_d11_519 rfl ?_
    refine own_ishl K own_d11_521 ?_
    refine own_ior K own_d11_522 ?_
    refine own_iconst K own_d11_523 (v := (1 : Int32)) rfl ?_
    refine own_iload K own_d11_524 rfl ?_
    refine own_ishl K own_d11_526 ?_
    refine own_ior K own_d11_527 ?_
    refine own_iconst K own_d11_528 (v := (1 : Int32)) rfl ?_
    refine own_iload K own_d11_529 rfl ?_
    refine own_ishl K own_d11_531 ?_
    refine own_ior K own_d11_532 ?_
    refine own_iconst K own_d11_533 (v := (1 : Int32)) rfl ?_
    refine own_iload K own_d11_534 rfl ?_
    refine own_ishl K own_d11_536 ?_
    refine own_ior K own_d11_537 ?_
    refine own_bipush K own_d11_538 (v := (63 : Int32)) rfl ?_
    refine own_icmpeq K own_d11_540 (fun _ => ?_) (fun q => absurd (own_mask PM225) q)
    refine own_iload K own_d11_545 rfl ?_
    refine own_iload K own_d11_547 rfl ?_
    refine own_icmplt K own_d11_549 (fun _ => ?_) (fun q => absurd (by rw [own_oN ltk109]; show (k109 : Int) < 1; omega) q)
    refine own_aloadN K own_d11_554 rfl rfl ?_
    refine own_iload K own_d11_555 rfl ?_
    refine own_iaload K own_d11_557 H229 (i := 3) rfl (q := k109) (own_oN ltk109) (own_vz ltk109) ?_
    refine own_istore K own_d11_558 (Ls' := #[.val (.long pk), .second, .val (.int mo), .val (.ref a3), .val (.ref a42), .val (.int (3 : Int32)), .val (.int (1 : Int32)), .val (.ref a99), .val (.ref (aa k109)), .val (.ref (aa k163)), .val (.ref (aa k178)), .val (.ref (aa k192)), .val (.ref (aa k204)), .val (.ref (aa k214)), .val (.int (1 : Int32)), .val (.int (Int32.ofNat k109)), .val (.int (Int32.ofNat k163)), .val (.int (Int32.ofNat k178)), .val (.int (Int32.ofNat k192)), .val (.int (Int32.ofNat k204)), .val (.int (Int32.ofNat k214)), .val (.int (za k109)), .unset, .unset, .unset, .unset, .unset]) rfl ?_
    refine own_aloadN K own_d11_560 rfl rfl ?_
    refine own_iload K own_d11_561 rfl ?_
    refine own_iaload K own_d11_563 H229 (i := 3) rfl (q := k163) (own_oN ltk163) (own_vz ltk163) ?_
    refine own_istore K own_d11_564 (Ls' := #[.val (.long pk), .second, .val (.int mo), .val (.ref a3), .val (.ref a42), .val (.int (3 : Int32)), .val (.int (1 : Int32)), .val (.ref a99), .val (.ref (aa k109)), .val (.ref (aa k163)), .val (.ref (aa k178)), .val (.ref (aa k192)), .val (.ref (aa k204)), .val (.ref (aa k214)), .val (.int (1 : Int32)), .val (.int (Int32.ofNat k109)), .val (.int (Int32.ofNat k163)), .val (.int (Int32.ofNat k178)), .val (.int (Int32.ofNat k192)), .val (.int (Int32.ofNat k204)), .val (.int (Int32.ofNat k214)), .val (.int (za k109)), .val (.int (za k163)), .unset, .unset, .unset, .unset]) rfl ?_
    refine own_aloadN K own_d11_566 rfl rfl ?_
    refine own_iload K own_d11_567 rfl ?_
    refine own_iaload K own_d11_569 H229 (i := 3) rfl (q := k178) (own_oN ltk178) (own_vz ltk178) ?_
    refine own_istore K own_d11_570 (Ls' := #[.val (.long pk), .second, .val (.int mo), .val (.ref a3), .val (.ref a42), .val (.int (3 : Int32)), .val (.int (1 : Int32)), .val (.ref a99), .val (.ref (aa k109)), .val (.ref (aa k163)), .val (.ref (aa k178)), .val (.ref (aa k192)), .val (.ref (aa k204)), .val (.ref (aa k214)), .val (.int (1 : Int32)), .val (.int (Int32.ofNat k109)), .val (.int (Int32.ofNat k163)), .val (.int (Int32.ofNat k178)), .val (.int (Int32.ofNat k192)), .val (.int (Int32.ofNat k204)), .val (.int (Int32.ofNat k214)), .val (.int (za k109)), .val (.int (za k163)), .val (.int (za k178)), .unset, .unset, .unset]) rfl ?_
    refine own_aloadN K own_d11_572 rfl rfl ?_
    refine own_iload K own_d11_573 rfl ?_
    refine own_iaload K own_d11_575 H229 (i := 3) rfl (q := k192) (own_oN ltk192) (own_vz ltk192) ?_
    refine own_istore K own_d11_576 (Ls' := #[.val (.long pk), .second, .val (.int mo), .val (.ref a3), .val (.ref a42), .val (.int (3 : Int32)), .val (.int (1 : Int32)), .val (.ref a99), .val (.ref (aa k109)), .val (.ref (aa k163)), .val (.ref (aa k178)), .val (.ref (aa k192)), .val (.ref (aa k204)), .val (.ref (aa k214)), .val (.int (1 : Int32)), .val (.int (Int32.ofNat k109)), .val (.int (Int32.ofNat k163)), .val (.int (Int32.ofNat k178)), .val (.int (Int32.ofNat k192)), .val (.int (Int32.ofNat k204)), .val (.int (Int32.ofNat k214)), .val (.int (za k109)), .val (.int (za k163)), .val (.int (za k178)), .val (.int (za k192)), .unset, .unset]) rfl ?_
    refine own_aloadN K own_d11_578 rfl rfl ?_
    refine own_iload K own_d11_579 rfl ?_
    refine own_iaload K own_d11_581 H229 (i := 3) rfl (q := k204) (own_oN ltk204) (own_vz ltk204) ?_
    refine own_istore K own_d11_582 (Ls' := #[.val (.long pk), .second, .val (.int mo), .val (.ref a3), .val (.ref a42), .val (.int (3 : Int32)), .val (.int (1 : Int32)), .val (.ref a99), .val (.ref (aa k109)), .val (.ref (aa k163)), .val (.ref (aa k178)), .val (.ref (aa k192)), .val (.ref (aa k204)), .val (.ref (aa k214)), .val (.int (1 : Int32)), .val (.int (Int32.ofNat k109)), .val (.int (Int32.ofNat k163)), .val (.int (Int32.ofNat k178)), .val (.int (Int32.ofNat k192)), .val (.int (Int32.ofNat k204)), .val (.int (Int32.ofNat k214)), .val (.int (za k109)), .val (.int (za k163)), .val (.int (za k178)), .val (.int (za k192)), .val (.int (za k204)), .unset]) rfl ?_
    refine own_aloadN K own_d11_584 rfl rfl ?_
    refine own_iload K own_d11_585 rfl ?_
    refine own_iaload K own_d11_587 H229 (i := 3) rfl (q := k214) (own_oN ltk214) (own_vz ltk214) ?_
    refine own_istore K own_d11_588 (Ls' := #[.val (.long pk), .second, .val (.int mo), .val (.ref a3), .val (.ref a42), .val (.int (3 : Int32)), .val (.int (1 : Int32)), .val (.ref a99), .val (.ref (aa k109)), .val (.ref (aa k163)), .val (.ref (aa k178)), .val (.ref (aa k192)), .val (.ref (aa k204)), .val (.ref (aa k214)), .val (.int (1 : Int32)), .val (.int (Int32.ofNat k109)), .val (.int (Int32.ofNat k163)), .val (.int (Int32.ofNat k178)), .val (.int (Int32.ofNat k192)), .val (.int (Int32.ofNat k204)), .val (.int (Int32.ofNat k214)), .val (.int (za k109)), .val (.int (za k163)), .val (.int (za k178)), .val (.int (za k192)), .val (.int (za k204)), .val (.int (za k214))]) rfl ?_
    refine own_iload K own_d11_590 rfl ?_
    refine own_aloadN K own_d11_592 rfl rfl ?_
    refine own_iload K own_d11_593 rfl ?_
    have H248 := H229.frontA 3 rfl
    replace H248 : own_H Z h219 (own_DP a99 (.ref ta104) (.ref ca105) (.int (0 : Int32)) :: own_CN (aa 5) (.double (FP.i2d (za 5))) .null (.int (0 : Int32)) (.int (1 : Int32)) :: own_CN (aa 4) (.double (FP.i2d (za 4))) .null (.int (0 : Int32)) (.int (1 : Int32)) :: own_CN (aa 3) (.double (FP.i2d (za 3))) .null (.int (0 : Int32)) (.int (1 : Int32)) :: own_CN (aa 2) (.double (FP.i2d (za 2))) .null (.int (0 : Int32)) (.int (1 : Int32)) :: own_CN (aa 1) (.double (FP.i2d (za 1))) .null (.int (0 : Int32)) (.int (1 : Int32)) :: own_CN (aa 0) (.double (FP.i2d (za 0))) .null (.int (0 : Int32)) (.int (1 : Int32)) :: []) ((a3, .int, "[I", [(.int (za 0)), (.int (za 1)), (.int (za 2)), (.int (za 3)), (.int (za 4)), (.int (za 5))]) :: (a42, (.object "com/example/slotwise/slotwise/Simulation$Connection"), "[Lcom/example/slotwise/slotwise/Simulation$Connection;", [(.ref (aa 0)), (.ref (aa 1)), (.ref (aa 2)), (.ref (aa 3)), (.ref (aa 4)), (.ref (aa 5))]) :: (ta104, .double, "[D", ((.double (FP.i2d (za k214))) :: (.double (FP.i2d (za k205))) :: (.double (FP.i2d (za k194))) :: (.double (FP.i2d (za k181))) :: (.double (FP.i2d (za k167))) :: (.double (0 : UInt64)) :: (List.replicate 58 (.double (0 : UInt64))))) :: (ca105, (.object "com/example/slotwise/slotwise/Simulation$Connection"), "[Lcom/example/slotwise/slotwise/Simulation$Connection;", (.null :: .null :: .null :: .null :: .null :: .null :: (List.replicate 58 .null))) :: []) := H248
    refine own_static K own_d11_595 (own_w68 hw) (own_w69 hw) (own_w3 hw) (own_w70 hw) (argsL := [(.ref a3), (.int (1 : Int32))]) (rest := [(.int (za k109))]) (own_mut1 hw H248) own_pd9 rfl rfl rfl (by decide) (W := 1) (Nat.le_of_eq rfl) (by decide) (by decide) (by decide) (by decide) ?_
    intro v251 h249 q250
    obtain ⟨⟨im, him, rfl⟩, rfl⟩ := q250
    refine own_icmple K own_d11_598 (fun _ => ?_) (fun q => absurd (RM im him) q)
    refine own_iload K own_d11_603 rfl ?_
    refine own_bipush K own_d11_605 (v := (6 : Int32)) rfl ?_
    refine own_icmpne K own_d11_607 (fun _ => ?_) (fun q => absurd (by decide) q)
    refine own_iload K own_d11_619 rfl ?_
    refine own_iload K own_d11_621 rfl ?_
    refine own_icmpgt K own_d11_623 (fun q => absurd q (Int.not_lt.mpr le187)) (fun _ => ?_)
    refine own_iload K own_d11_626 rfl ?_
    refine own_iload K own_d11_628 rfl ?_
    refine own_icmpgt K own_d11_630 (fun q => absurd q (Int.not_lt.mpr le199)) (fun _ => ?_)
    refine own_iload K own_d11_633 rfl ?_
    refine own_iload K own_d11_635 rfl ?_
    refine own_icmpgt K own_d11_637 (fun q => absurd q (Int.not_lt.mpr le209)) (fun _ => ?_)
    refine own_iload K own_d11_640 rfl ?_
    refine own_iload K own_d11_642 rfl ?_
    refine own_icmpgt K own_d11_644 (fun q => absurd q (Int.not_lt.mpr le217)) (fun _ => ?_)
    refine own_iload K own_d11_647 rfl ?_
    refine own_ifeq K own_d11_649 (fun q => absurd q (by decide)) (fun _ => ?_)
    refine own_iconst K own_d11_652 (v := (1 : Int32)) rfl ?_
    refine own_goto K own_d11_653 ?_
    exact own_retZ K (by first | exact Or.inl rfl | exact Or.inr rfl | decide) own_d11_657 (by decide) (by decide) (rfl)
set_option maxRecDepth 65536 in
set_option maxHeartbeats 40000000 in
theorem comes_1 {Post : Tables → Env → Array Value → State → Outcome → State → Prop} (hpost : ∀ tb e args s v u, (limb_1_1.after args s (.returned v) u = true ∧ limb_1_2.after args s (.returned v) u = true ∧ True) → FrameEnd s (.returned v) u (Jvm.fieldLocs frame_1_writes args s ++ Jvm.arrayLocs frame_1_arrays args s ++ Jvm.staticLocs frame_1_statics s) 32 448 → Post tb e args s (.returned v) u) :
    ArmFor flags0 classFile x code maxLocals ret World_1 tables_1 room_1 Calls_1 rest_1 Pre_1 Post := by
  intro l hfl _ _ p e ha hc hk s m args below hf hA hF happ hP
  obtain ⟨hcalls, hrest, hpre⟩ := hP
  obtain ⟨-, -, -, hnamed, -, -, -, hat⟩ := (Spec.applies_iff hf).mp happ
  obtain ⟨hg, hn⟩ := and_e (Cond.before_iff.mp (show (Jvm.Cond.and given_1 narrow_1).before args s = true from hpre))
  obtain ⟨h1, hq0⟩ := and_e hg
  obtain ⟨hi0, hq1⟩ := and_e hq0
  have hi1 := hq1
  obtain ⟨w0, w1, rfl⟩ : ∃ w0 w1 : Value, args = #[w0, w1] := by
    have hs : args.size = 2 := by simpa [Cond.value, given_1] using h1
    obtain ⟨L⟩ := args
    match L, hs with
    | [w0, w1], _ => exact ⟨w0, w1, rfl⟩
  have hw : own_Z s #[w0, w1] := fun d (hd : d ∈ tables_1) => atoms_spec (ws := Jvm.Cond.code x code maxLocals ret :: tables_1) hat d (List.mem_cons_of_mem _ hd)
  obtain ⟨i0, e0⟩ := isL_v hi0
  obtain rfl : w0 = (.long i0) := Option.some.inj e0
  obtain ⟨i1, e1⟩ := is_v hi1
  obtain rfl : w1 = (.int i1) := Option.some.inj e1
  obtain ⟨n, o, h1, h2, h3, v, L, rfl, ⟨rfl, N, -⟩, hq⟩ := own_law hw p e ha hc hk s m _ below hf ((Spec.applies_iff_loose hf).mp happ).1 ⟨rfl, State.Warmed39.refl s, rfl⟩ trivial
  refine ⟨n, _, h1, h2, h3, hpost _ _ _ _ _ _ ⟨Cond.after_iff.mpr rfl, Cond.after_iff.mpr (eq_i res_at (Term.int_eval (1)) rfl), trivial⟩ ⟨hq.1, hq.2.1, (hq.2.2.sift fun y hy => Or.inr (N y hy)).mono (by decide) (by decide)⟩⟩
theorem main_1_1 : Claimed_1_1 := comes_1 fun _ _ _ _ _ _ h hF => ⟨h.1, hF⟩
theorem main_1_2 : Claimed_1_2 := comes_1 fun _ _ _ _ _ _ h hF => ⟨h.2.1, hF⟩
end Jvm.Pilot.@@N@@
namespace Jvm.Pilot.@@N@@
open Jvm Jvm.ClassFile Sem Op Lib Jvm.Free Jvm.Stand Jvm.Pilot.@@N@@.Jvm.D
/-! MADE BY PROGRAM (witnessworld.py) out of the Statement's table words and the real class files: 15 classes; the members and pool entries that the words name. The judged class is class 1, her method 4. -/
namespace start1
open Jvm.ClassFile
def u (s : String) : CpInfo := .utf8 (stringToUtf16 s)
/-- a pool by its gaps: so many unusable entries, then the entry; so many at the end -/
def gap : Nat → List CpInfo → List CpInfo
  | 0, r => r
  | n + 1, r => .unusable :: gap n r
def poolList (es : List (Nat × CpInfo)) (last : Nat) : List CpInfo := es.foldr (fun e r => gap e.1 (e.2 :: r)) (gap last [])
def pool (es : List (Nat × CpInfo)) (last : Nat) : Array CpInfo := ⟨poolList es last⟩
def fileOf (pool : Array CpInfo) (this : Nat) (attrs : Array Attribute := #[]) (ms : Array MethodInfo := #[]) (fl : Nat := 33) (sup : Nat := 0) (ifs : Array Nat := #[]) (fds : Array FieldInfo := #[]) : ClassFile where
  minorVersion := 0
  majorVersion := 65
  constantPool := pool
  accessFlags := fl
  thisClass := this
  superClass := sup
  interfaces := ifs
  fields := fds
  methods := ms
  attributes := attrs
def plain (name : String) (sup : Option ClassId) : Class where
  name := name
  kind := .ordinary
  loader := none
  accessFlags := 33
  super := sup
  interfaces := #[]
  cf := none
  fields := #[]
  methods := #[]
  instanceTypes := #[]
  staticTypes := #[]
  resolved := #[]
  callSites := []
  init := .initialized
  statics := none
  mirror := none

def pool0 : Array CpInfo := pool [(5, u "<init>"), (0, u "()V"), (1, .class_ 10), (1, u "java/lang/Object")] 113

def k0c0 : Code := { maxStack := 0, maxLocals := 1, code := object_method_1_code, exceptionTable := #[], attributes := #[] }
def k0m0 : Method := { name := "<init>", desc := "()V", sig := { parameters := [], returnType := none }, accessFlags := 1, code := some k0c0 }
/-- java/lang/Object -/
def k0 : Class := { plain "java/lang/Object" none with
  accessFlags := 33
  interfaces := #[]
  cf := some (fileOf pool0 8 #[] #[{ accessFlags := 1, nameIndex := 5, descriptorIndex := 6, attributes := #[] }] 33 0 #[] #[])
  fields := #[]
  methods := #[k0m0]
  instanceTypes := #[]
  staticTypes := #[]
  resolved := Array.replicate 124 none
  statics := none }

def pool1 : Array CpInfo := pool [(2, .class_ 4), (0, .nameAndType 5 6), (0, u "java/lang/Object"), (0, u "<init>"), (0, u "()V"), (0, .long 255), (1, .methodref 10 11), (0, .class_ 12), (0, .nameAndType 13 14), (0, u "java/lang/Math"), (0, u "min"), (0, u "(II)I"), (0, .methodref 16 17), (0, .class_ 18), (0, .nameAndType 19 20), (0, u "com/example/slotwise/slotwise/DeparturesPollPinLaw"), (0, u "field"), (0, u "(JI)I"), (0, .class_ 22), (0, u "com/example/slotwise/slotwise/Simulation$Connection"), (0, .methodref 21 24), (0, .nameAndType 5 25), (0, u "(DLcom/example/slotwise/slotwise/Route;II)V"), (0, .class_ 27), (0, u "com/example/slotwise/slotwise/Departures"), (0, .methodref 26 3), (0, .methodref 26 30), (0, .nameAndType 31 32), (0, u "add"), (0, u "(Lcom/example/slotwise/slotwise/Simulation$Connection;)V"), (0, .methodref 26 34), (0, .nameAndType 35 36), (0, u "poll"), (0, u "()Lcom/example/slotwise/slotwise/Simulation$Connection;"), (0, .methodref 26 38), (0, .nameAndType 39 40), (0, u "isEmpty"), (0, u "()Z"), (0, .methodref 16 42), (0, .nameAndType 43 44), (0, u "index"), (0, u "(Lcom/example/slotwise/slotwise/Simulation$Connection;[Lcom/example/slotwise/slotwise/Simulation$Connection;)I"), (0, .methodref 16 46), (0, .nameAndType 47 48), (0, u "minUpTo"), (0, u "([II)I"), (3, u "law"), (0, u "(JI)Z")] 10

def k1m0 : Method := { name := "<init>", desc := "()V", sig := { parameters := [], returnType := none }, accessFlags := 1, code := none }
def k1c1 : Code := { maxStack := 4, maxLocals := 3, code := method_2_code, exceptionTable := #[], attributes := #[] }
def k1m1 : Method := { name := "field", desc := "(JI)I", sig := { parameters := [.long, .int], returnType := some .int }, accessFlags := 10, code := some k1c1 }
def k1c2 : Code := { maxStack := 3, maxLocals := 2, code := method_3_code, exceptionTable := #[], attributes := #[] }
def k1m2 : Method := { name := "index", desc := "(Lcom/example/slotwise/slotwise/Simulation$Connection;[Lcom/example/slotwise/slotwise/Simulation$Connection;)I", sig := { parameters := [(.object "com/example/slotwise/slotwise/Simulation$Connection"), (.array (.object "com/example/slotwise/slotwise/Simulation$Connection"))], returnType := some .int }, accessFlags := 10, code := some k1c2 }
def k1c3 : Code := { maxStack := 3, maxLocals := 3, code := method_4_code, exceptionTable := #[], attributes := #[] }
def k1m3 : Method := { name := "minUpTo", desc := "([II)I", sig := { parameters := [(.array .int), .int], returnType := some .int }, accessFlags := 10, code := some k1c3 }
def k1c4 : Code := { maxStack := 9, maxLocals := 27, code := code, exceptionTable := #[], attributes := #[] }
def k1m4 : Method := { name := "law", desc := "(JI)Z", sig := { parameters := [.long, .int], returnType := some .boolean }, accessFlags := 9, code := some k1c4 }
/-- com/example/slotwise/slotwise/DeparturesPollPinLaw -/
def k1 : Class := { plain "com/example/slotwise/slotwise/DeparturesPollPinLaw" (some 0) with
  accessFlags := 49
  interfaces := #[]
  cf := some (fileOf pool1 16 #[] #[{ accessFlags := 1, nameIndex := 5, descriptorIndex := 6, attributes := #[] }, { accessFlags := 10, nameIndex := 19, descriptorIndex := 20, attributes := #[] }, { accessFlags := 10, nameIndex := 43, descriptorIndex := 44, attributes := #[] }, { accessFlags := 10, nameIndex := 47, descriptorIndex := 48, attributes := #[] }, { accessFlags := 9, nameIndex := 52, descriptorIndex := 53, attributes := #[] }] 49 2 #[] #[])
  fields := #[]
  methods := #[k1m0, k1m1, k1m2, k1m3, k1m4]
  instanceTypes := #[]
  staticTypes := #[]
  resolved := Array.replicate 64 none
  statics := none }

def pool2 : Array CpInfo := pool [(1, .methodref 2 3), (0, .class_ 4), (0, .nameAndType 5 6), (0, u "java/lang/Object"), (0, u "<init>"), (0, u "()V"), (0, .class_ 8), (0, u "java/lang/Record")] 13

def k2c0 : Code := { maxStack := 1, maxLocals := 1, code := jdk_30_method_1_code, exceptionTable := #[], attributes := #[] }
def k2m0 : Method := { name := "<init>", desc := "()V", sig := { parameters := [], returnType := none }, accessFlags := 4, code := some k2c0 }
/-- java/lang/Record -/
def k2 : Class := { plain "java/lang/Record" (some 0) with
  accessFlags := 1057
  interfaces := #[]
  cf := some (fileOf pool2 7 #[] #[{ accessFlags := 4, nameIndex := 5, descriptorIndex := 6, attributes := #[] }] 1057 2 #[] #[])
  fields := #[]
  methods := #[k2m0]
  instanceTypes := #[]
  staticTypes := #[]
  resolved := Array.replicate 22 none
  statics := none }

def pool3 : Array CpInfo := pool [(1, .methodref 2 3), (0, .class_ 4), (0, .nameAndType 5 6), (0, u "java/lang/Record"), (0, u "<init>"), (0, u "()V"), (0, .fieldref 8 9), (0, .class_ 10), (0, .nameAndType 11 12), (0, u "com/example/slotwise/slotwise/Simulation$Connection"), (0, u "departure"), (0, u "D"), (0, .fieldref 8 14), (0, .nameAndType 15 16), (0, u "route"), (0, u "Lcom/example/slotwise/slotwise/Route;"), (0, .fieldref 8 18), (0, .nameAndType 19 20), (0, u "first"), (0, u "I"), (0, .fieldref 8 22), (0, .nameAndType 23 20), (0, u "size"), (12, u "(DLcom/example/slotwise/slotwise/Route;II)V"), (6, u "()D"), (4, .class_ 49), (0, u "com/example/slotwise/slotwise/Simulation")] 22

def k3c0 : Code := { maxStack := 3, maxLocals := 6, code := prog_33_method_1_code, exceptionTable := #[], attributes := #[] }
def k3m0 : Method := { name := "<init>", desc := "(DLcom/example/slotwise/slotwise/Route;II)V", sig := { parameters := [.double, (.object "com/example/slotwise/slotwise/Route"), .int, .int], returnType := none }, accessFlags := 0, code := some k3c0 }
def k3c1 : Code := { maxStack := 2, maxLocals := 1, code := prog_33_method_5_code, exceptionTable := #[], attributes := #[] }
def k3m1 : Method := { name := "departure", desc := "()D", sig := { parameters := [], returnType := some .double }, accessFlags := 1, code := some k3c1 }
/-- com/example/slotwise/slotwise/Simulation$Connection -/
def k3 : Class := { plain "com/example/slotwise/slotwise/Simulation$Connection" (some 2) with
  accessFlags := 48
  interfaces := #[]
  cf := some (fileOf pool3 8 #[.nestHost 48] #[{ accessFlags := 0, nameIndex := 5, descriptorIndex := 36, attributes := #[] }, { accessFlags := 1, nameIndex := 11, descriptorIndex := 43, attributes := #[] }] 48 2 #[] #[{ accessFlags := 18, nameIndex := 11, descriptorIndex := 12, attributes := #[] }, { accessFlags := 18, nameIndex := 15, descriptorIndex := 16, attributes := #[] }, { accessFlags := 18, nameIndex := 19, descriptorIndex := 20, attributes := #[] }, { accessFlags := 18, nameIndex := 23, descriptorIndex := 20, attributes := #[] }])
  fields := #[{ name := "departure", type := .double, accessFlags := 18, slot := 0, constantValue := 0 }, { name := "route", type := (.object "com/example/slotwise/slotwise/Route"), accessFlags := 18, slot := 1, constantValue := 0 }, { name := "first", type := .int, accessFlags := 18, slot := 2, constantValue := 0 }, { name := "size", type := .int, accessFlags := 18, slot := 3, constantValue := 0 }]
  methods := #[k3m0, k3m1]
  instanceTypes := #[.double, (.object "com/example/slotwise/slotwise/Route"), .int, .int]
  staticTypes := #[]
  resolved := Array.replicate 72 none
  statics := none }

def pool4 : Array CpInfo := pool [(1, .methodref 2 3), (0, .class_ 4), (0, .nameAndType 5 6), (0, u "java/lang/Object"), (0, u "<init>"), (0, u "()V"), (0, .class_ 8), (0, u "com/example/slotwise/slotwise/Departures"), (0, .fieldref 7 10), (0, .nameAndType 11 12), (0, u "times"), (0, u "[D"), (0, .class_ 14), (0, u "com/example/slotwise/slotwise/Simulation$Connection"), (0, .fieldref 7 16), (0, .nameAndType 17 18), (0, u "connections"), (0, u "[Lcom/example/slotwise/slotwise/Simulation$Connection;"), (0, .fieldref 7 20), (0, .nameAndType 21 22), (0, u "size"), (0, u "I"), (10, .methodref 13 34), (0, .nameAndType 35 36), (0, u "departure"), (0, u "()D"), (0, u "INITIAL_CAPACITY"), (4, u "isEmpty"), (0, u "()Z"), (2, u "add"), (0, u "(Lcom/example/slotwise/slotwise/Simulation$Connection;)V"), (0, u "poll"), (0, u "()Lcom/example/slotwise/slotwise/Simulation$Connection;")] 6

def k4c0 : Code := { maxStack := 2, maxLocals := 1, code := prog_10_method_1_code, exceptionTable := #[], attributes := #[] }
def k4m0 : Method := { name := "<init>", desc := "()V", sig := { parameters := [], returnType := none }, accessFlags := 0, code := some k4c0 }
def k4c1 : Code := { maxStack := 1, maxLocals := 1, code := prog_10_method_2_code, exceptionTable := #[], attributes := #[] }
def k4m1 : Method := { name := "isEmpty", desc := "()Z", sig := { parameters := [], returnType := some .boolean }, accessFlags := 0, code := some k4c1 }
def k4c2 : Code := { maxStack := 4, maxLocals := 6, code := prog_10_method_4_code, exceptionTable := #[], attributes := #[] }
def k4m2 : Method := { name := "add", desc := "(Lcom/example/slotwise/slotwise/Simulation$Connection;)V", sig := { parameters := [(.object "com/example/slotwise/slotwise/Simulation$Connection")], returnType := none }, accessFlags := 0, code := some k4c2 }
def k4c3 : Code := { maxStack := 4, maxLocals := 8, code := prog_10_method_5_code, exceptionTable := #[], attributes := #[] }
def k4m3 : Method := { name := "poll", desc := "()Lcom/example/slotwise/slotwise/Simulation$Connection;", sig := { parameters := [], returnType := some (.object "com/example/slotwise/slotwise/Simulation$Connection") }, accessFlags := 0, code := some k4c3 }
/-- com/example/slotwise/slotwise/Departures -/
def k4 : Class := { plain "com/example/slotwise/slotwise/Departures" (some 0) with
  accessFlags := 48
  interfaces := #[]
  cf := some (fileOf pool4 7 #[] #[{ accessFlags := 0, nameIndex := 5, descriptorIndex := 6, attributes := #[] }, { accessFlags := 0, nameIndex := 42, descriptorIndex := 43, attributes := #[] }, { accessFlags := 0, nameIndex := 46, descriptorIndex := 47, attributes := #[] }, { accessFlags := 0, nameIndex := 48, descriptorIndex := 49, attributes := #[] }] 48 2 #[] #[{ accessFlags := 26, nameIndex := 37, descriptorIndex := 22, attributes := #[] }, { accessFlags := 2, nameIndex := 11, descriptorIndex := 12, attributes := #[] }, { accessFlags := 2, nameIndex := 17, descriptorIndex := 18, attributes := #[] }, { accessFlags := 2, nameIndex := 21, descriptorIndex := 22, attributes := #[] }])
  fields := #[{ name := "INITIAL_CAPACITY", type := .int, accessFlags := 26, slot := 0, constantValue := 0 }, { name := "times", type := (.array .double), accessFlags := 2, slot := 0, constantValue := 0 }, { name := "connections", type := (.array (.object "com/example/slotwise/slotwise/Simulation$Connection")), accessFlags := 2, slot := 1, constantValue := 0 }, { name := "size", type := .int, accessFlags := 2, slot := 2, constantValue := 0 }]
  methods := #[k4m0, k4m1, k4m2, k4m3]
  instanceTypes := #[(.array .double), (.array (.object "com/example/slotwise/slotwise/Simulation$Connection")), .int]
  staticTypes := #[.int]
  resolved := Array.replicate 56 none
  statics := none }

def pool5 : Array CpInfo := pool [(1, .class_ 2), (0, u "java/lang/Math"), (1, .class_ 6), (1, u "java/lang/Object"), (0, u "<init>"), (0, u "()V"), (89, .class_ 100), (1, u "java/lang/Math$RandomNumberGeneratorHolder"), (71, u "negativeZeroFloatBits"), (0, u "J"), (2, u "negativeZeroDoubleBits"), (24, u "min"), (43, u "$assertionsDisabled"), (0, u "Z"), (88, u "(II)I"), (2, u "twoToTheDoubleScaleDown"), (0, u "D"), (4, u "twoToTheDoubleScaleUp"), (9, u "E"), (3, u "PI"), (2, u "TAU"), (2, u "DEGREES_TO_RADIANS"), (0, u "RADIANS_TO_DEGREES")] 94

def k5m0 : Method := { name := "<init>", desc := "()V", sig := { parameters := [], returnType := none }, accessFlags := 2, code := none }
def k5c1 : Code := { maxStack := 2, maxLocals := 2, code := jdk_29_method_69_code, exceptionTable := #[], attributes := #[] }
def k5m1 : Method := { name := "min", desc := "(II)I", sig := { parameters := [.int, .int], returnType := some .int }, accessFlags := 9, code := some k5c1 }
/-- java/lang/Math -/
def k5 : Class := { plain "java/lang/Math" (some 0) with
  accessFlags := 49
  interfaces := #[]
  cf := some (fileOf pool5 1 #[.nestMembers #[98]] #[{ accessFlags := 2, nameIndex := 7, descriptorIndex := 8, attributes := #[] }, { accessFlags := 9, nameIndex := 201, descriptorIndex := 335, attributes := #[] }] 49 4 #[] #[{ accessFlags := 25, nameIndex := 354, descriptorIndex := 339, attributes := #[] }, { accessFlags := 25, nameIndex := 358, descriptorIndex := 339, attributes := #[] }, { accessFlags := 25, nameIndex := 361, descriptorIndex := 339, attributes := #[] }, { accessFlags := 26, nameIndex := 364, descriptorIndex := 339, attributes := #[] }, { accessFlags := 26, nameIndex := 365, descriptorIndex := 339, attributes := #[] }, { accessFlags := 26, nameIndex := 172, descriptorIndex := 173, attributes := #[] }, { accessFlags := 26, nameIndex := 176, descriptorIndex := 173, attributes := #[] }, { accessFlags := 8, nameIndex := 344, descriptorIndex := 339, attributes := #[] }, { accessFlags := 8, nameIndex := 338, descriptorIndex := 339, attributes := #[] }, { accessFlags := 4120, nameIndex := 245, descriptorIndex := 246, attributes := #[] }])
  fields := #[{ name := "E", type := .double, accessFlags := 25, slot := 0, constantValue := 0 }, { name := "PI", type := .double, accessFlags := 25, slot := 1, constantValue := 0 }, { name := "TAU", type := .double, accessFlags := 25, slot := 2, constantValue := 0 }, { name := "DEGREES_TO_RADIANS", type := .double, accessFlags := 26, slot := 3, constantValue := 0 }, { name := "RADIANS_TO_DEGREES", type := .double, accessFlags := 26, slot := 4, constantValue := 0 }, { name := "negativeZeroFloatBits", type := .long, accessFlags := 26, slot := 5, constantValue := 0 }, { name := "negativeZeroDoubleBits", type := .long, accessFlags := 26, slot := 6, constantValue := 0 }, { name := "twoToTheDoubleScaleUp", type := .double, accessFlags := 8, slot := 7, constantValue := 0 }, { name := "twoToTheDoubleScaleDown", type := .double, accessFlags := 8, slot := 8, constantValue := 0 }, { name := "$assertionsDisabled", type := .boolean, accessFlags := 4120, slot := 9, constantValue := 0 }]
  methods := #[k5m0, k5m1]
  instanceTypes := #[]
  staticTypes := #[.double, .double, .double, .double, .double, .long, .long, .double, .double, .boolean]
  resolved := Array.replicate 460 none
  statics := none }

def pool6 : Array CpInfo := pool [(1, u "java/lang/Cloneable"), (0, .class_ 1), (0, u "java/lang/Object"), (0, .class_ 3)] 3

/-- java/lang/Cloneable -/
def k6 : Class := { plain "java/lang/Cloneable" (some 0) with
  accessFlags := 1537
  interfaces := #[]
  cf := some (fileOf pool6 2 #[] #[] 1537 4 #[] #[])
  fields := #[]
  methods := #[]
  instanceTypes := #[]
  staticTypes := #[]
  resolved := Array.replicate 8 none
  statics := none }

def pool7 : Array CpInfo := pool [(1, u "java/io/Serializable"), (0, .class_ 1), (0, u "java/lang/Object"), (0, .class_ 3)] 3

/-- java/io/Serializable -/
def k7 : Class := { plain "java/io/Serializable" (some 0) with
  accessFlags := 1537
  interfaces := #[]
  cf := some (fileOf pool7 2 #[] #[] 1537 4 #[] #[])
  fields := #[]
  methods := #[]
  instanceTypes := #[]
  staticTypes := #[]
  resolved := Array.replicate 8 none
  statics := none }

/-- the primitive byte -/
def k8 : Class := { plain "byte" none with kind := .primitive 'B', accessFlags := 0x411 }
/-- [B -/
def k9 : Class := { plain "[B" (some 0) with kind := .array 8 .byte, interfaces := #[6, 7], accessFlags := 1041 }

/-- the primitive double -/
def k10 : Class := { plain "double" none with kind := .primitive 'D', accessFlags := 0x411 }
/-- [D -/
def k11 : Class := { plain "[D" (some 0) with kind := .array 10 .double, interfaces := #[6, 7], accessFlags := 1041 }

/-- the primitive int -/
def k12 : Class := { plain "int" none with kind := .primitive 'I', accessFlags := 0x411 }
/-- [I -/
def k13 : Class := { plain "[I" (some 0) with kind := .array 12 .int, interfaces := #[6, 7], accessFlags := 1041 }

/-- [Lcom/example/slotwise/slotwise/Simulation$Connection; -/
def k14 : Class := { plain "[Lcom/example/slotwise/slotwise/Simulation$Connection;" (some 0) with kind := .array 3 (.object "com/example/slotwise/slotwise/Simulation$Connection"), interfaces := #[6, 7], accessFlags := 1041 }

def heap : Heap := #[]
def classes : Array Class := #[k0, k1, k2, k3, k4, k5, k6, k7, k8, k9, k10, k11, k12, k13, k14]
def interned : List (Array UInt16 × Addr) := []
def slotsUsed : Nat := 0
def theMethod : MethodId := ⟨1, 4⟩
def args0 : Array Value := #[.long 5, .int 0]
def aboutOver (below : List Frame) : State where
  vm := { classes := classes, interned := interned.toArray }
  heap := heap
  slotsUsed := slotsUsed
  threads := #[{ frames := .invoking theMethod args0 :: below }]
def below0 : List Frame := [.native { method := ⟨0, 0⟩, args := #[] }]
def about1 : State := aboutOver below0
def p0 : Program := .bare "" "" ""
def e0 : Env := launch0.env 0 0 0
theorem w_frames : about1.frames = Frame.invoking theMethod args0 :: below0 := rfl
set_option maxRecDepth 65536 in
theorem w_args : argsFit about1.vm theMethod args0 = true := by decide +kernel
set_option maxRecDepth 65536 in
theorem w_heap : heapFits about1 = true := by decide +kernel
set_option maxRecDepth 65536 in
theorem w_runnable : about1.curStatus? = some .runnable := by decide +kernel
set_option maxRecDepth 65536 in
theorem w_alone : about1.alone = true := by decide +kernel
set_option maxRecDepth 65536 in
theorem w_named : about1.methodNamed? x = some theMethod := by decide +kernel
set_option maxRecDepth 65536 in
theorem w_hears : about1.hears theMethod below0 = true := by decide +kernel
set_option maxRecDepth 65536 in
theorem w_ripe : about1.ripe theMethod args0 below0 = true := by decide +kernel
theorem w_running : about1.status = .running := rfl
set_option maxRecDepth 65536 in
theorem w_room : about1.hasRoom e0.platform room_1 = true :=
  launch0.hasRoom_least _ room_1 (by decide +kernel) (by decide +kernel) (by decide +kernel) (by decide +kernel) (by decide +kernel) (by decide +kernel)
theorem allAtoms_all (ts : List Jvm.Cond) (a : Array Jvm.Value) (st : Jvm.State) : (allAtoms ts).before a st = ts.all (fun c => c.before a st) := by
  induction ts with
  | nil => rfl
  | cons c t ih =>
    show (Jvm.Cond.and c (allAtoms t)).before a st = _
    rw [Jvm.Cond.before_and, ih, List.all_cons]
def words1 : List Jvm.Cond := Jvm.Cond.code x code maxLocals ret :: tables_1
/-- a 'code' word, met by the world's own term for the bytes: nothing is compared byte by byte -/
theorem code_word {y : MethodName} {bytes : ByteArray} {mx : Nat} {rt : Option FieldType} {a : Array Value} {s : State} {m : MethodId} {meth : Method} {c : Code} (h1 : s.methodNamed? y = some m) (h2 : s.vm.method? m = some meth) (h3 : meth.code = some c) (h4 : c.code = bytes)
    (h5 : (c.maxLocals == mx && c.exceptionTable.isEmpty && decide (c.maxStack ≤ mostOperands) && decide (meth.sig.returnType = rt) && !meth.locks && decide (parseMethodDescriptor y.desc = some meth.sig)) = true) : (Jvm.Cond.code y bytes mx rt).before a s = true := by
  simp only [Bool.and_eq_true, beq_iff_eq, Bool.not_eq_true', decide_eq_true_eq] at h5
  obtain ⟨⟨⟨⟨⟨g1, g2⟩, g3⟩, g4⟩, g5⟩, g6⟩ := h5
  simp [Cond.before, Cond.holds, Cond.value, h1, h2, h3, h4, g1, g2, g3, g4, g5, g6]
def isCode : Jvm.Cond → Bool
  | .code _ _ _ _ => true
  | _ => false
theorem all_split {L : List Jvm.Cond} {P : Jvm.Cond → Bool} (h1 : L.all (fun c => isCode c || P c) = true) (h2 : ∀ c ∈ L.filter isCode, P c = true) : L.all P = true := by
  refine List.all_eq_true.mpr fun c hc => ?_
  have h := List.all_eq_true.mp h1 c hc
  rcases Bool.eq_false_or_eq_true (isCode c) with hi | hi
  · exact h2 c (List.mem_filter.mpr ⟨hc, hi⟩)
  · simpa [hi] using h
set_option maxRecDepth 65536 in
theorem w_c0 : (Jvm.Cond.code x code maxLocals ret).before args0 about1 = true := code_word (m := ⟨1, 4⟩) (meth := k1m4) (c := k1c4) (by decide +kernel) rfl rfl rfl (by decide +kernel)
set_option maxRecDepth 65536 in
theorem w_c1 : (Jvm.Cond.code ({ cls := "com/example/slotwise/slotwise/DeparturesPollPinLaw", name := "field", desc := "(JI)I" } : Jvm.MethodName) method_2_code (3 : Nat) (Option.some Jvm.ClassFile.FieldType.int)).before args0 about1 = true := code_word (m := ⟨1, 1⟩) (meth := k1m1) (c := k1c1) (by decide +kernel) rfl rfl rfl (by decide +kernel)
set_option maxRecDepth 65536 in
theorem w_c2 : (Jvm.Cond.code ({ cls := "com/example/slotwise/slotwise/Simulation$Connection", name := "<init>", desc := "(DLcom/example/slotwise/slotwise/Route;II)V" } : Jvm.MethodName) prog_33_method_1_code (6 : Nat) (Option.none : Option Jvm.ClassFile.FieldType)).before args0 about1 = true := code_word (m := ⟨3, 0⟩) (meth := k3m0) (c := k3c0) (by decide +kernel) rfl rfl rfl (by decide +kernel)
set_option maxRecDepth 65536 in
theorem w_c3 : (Jvm.Cond.code ({ cls := "java/lang/Record", name := "<init>", desc := "()V" } : Jvm.MethodName) jdk_30_method_1_code (1 : Nat) (Option.none : Option Jvm.ClassFile.FieldType)).before args0 about1 = true := code_word (m := ⟨2, 0⟩) (meth := k2m0) (c := k2c0) (by decide +kernel) rfl rfl rfl (by decide +kernel)
set_option maxRecDepth 65536 in
theorem w_c4 : (Jvm.Cond.code ({ cls := "java/lang/Object", name := "<init>", desc := "()V" } : Jvm.MethodName) object_method_1_code (1 : Nat) (Option.none : Option Jvm.ClassFile.FieldType)).before args0 about1 = true := code_word (m := ⟨0, 0⟩) (meth := k0m0) (c := k0c0) (by decide +kernel) rfl rfl rfl (by decide +kernel)
set_option maxRecDepth 65536 in
theorem w_c5 : (Jvm.Cond.code ({ cls := "com/example/slotwise/slotwise/Departures", name := "<init>", desc := "()V" } : Jvm.MethodName) prog_10_method_1_code (1 : Nat) (Option.none : Option Jvm.ClassFile.FieldType)).before args0 about1 = true := code_word (m := ⟨4, 0⟩) (meth := k4m0) (c := k4c0) (by decide +kernel) rfl rfl rfl (by decide +kernel)
set_option maxRecDepth 65536 in
theorem w_c6 : (Jvm.Cond.code ({ cls := "com/example/slotwise/slotwise/Departures", name := "add", desc := "(Lcom/example/slotwise/slotwise/Simulation$Connection;)V" } : Jvm.MethodName) prog_10_method_4_code (6 : Nat) (Option.none : Option Jvm.ClassFile.FieldType)).before args0 about1 = true := code_word (m := ⟨4, 2⟩) (meth := k4m2) (c := k4c2) (by decide +kernel) rfl rfl rfl (by decide +kernel)
set_option maxRecDepth 65536 in
theorem w_c7 : (Jvm.Cond.code ({ cls := "com/example/slotwise/slotwise/Simulation$Connection", name := "departure", desc := "()D" } : Jvm.MethodName) prog_33_method_5_code (1 : Nat) (Option.some Jvm.ClassFile.FieldType.double)).before args0 about1 = true := code_word (m := ⟨3, 1⟩) (meth := k3m1) (c := k3c1) (by decide +kernel) rfl rfl rfl (by decide +kernel)
set_option maxRecDepth 65536 in
theorem w_c8 : (Jvm.Cond.code ({ cls := "com/example/slotwise/slotwise/Departures", name := "poll", desc := "()Lcom/example/slotwise/slotwise/Simulation$Connection;" } : Jvm.MethodName) prog_10_method_5_code (8 : Nat) (Option.some (Jvm.ClassFile.FieldType.object "com/example/slotwise/slotwise/Simulation$Connection"))).before args0 about1 = true := code_word (m := ⟨4, 3⟩) (meth := k4m3) (c := k4c3) (by decide +kernel) rfl rfl rfl (by decide +kernel)
set_option maxRecDepth 65536 in
theorem w_c9 : (Jvm.Cond.code ({ cls := "com/example/slotwise/slotwise/Departures", name := "isEmpty", desc := "()Z" } : Jvm.MethodName) prog_10_method_2_code (1 : Nat) (Option.some Jvm.ClassFile.FieldType.boolean)).before args0 about1 = true := code_word (m := ⟨4, 1⟩) (meth := k4m1) (c := k4c1) (by decide +kernel) rfl rfl rfl (by decide +kernel)
set_option maxRecDepth 65536 in
theorem w_c10 : (Jvm.Cond.code ({ cls := "com/example/slotwise/slotwise/DeparturesPollPinLaw", name := "index", desc := "(Lcom/example/slotwise/slotwise/Simulation$Connection;[Lcom/example/slotwise/slotwise/Simulation$Connection;)I" } : Jvm.MethodName) method_3_code (2 : Nat) (Option.some Jvm.ClassFile.FieldType.int)).before args0 about1 = true := code_word (m := ⟨1, 2⟩) (meth := k1m2) (c := k1c2) (by decide +kernel) rfl rfl rfl (by decide +kernel)
set_option maxRecDepth 65536 in
theorem w_c11 : (Jvm.Cond.code ({ cls := "com/example/slotwise/slotwise/DeparturesPollPinLaw", name := "minUpTo", desc := "([II)I" } : Jvm.MethodName) method_4_code (3 : Nat) (Option.some Jvm.ClassFile.FieldType.int)).before args0 about1 = true := code_word (m := ⟨1, 3⟩) (meth := k1m3) (c := k1c3) (by decide +kernel) rfl rfl rfl (by decide +kernel)
set_option maxRecDepth 65536 in
theorem w_c12 : (Jvm.Cond.code ({ cls := "java/lang/Math", name := "min", desc := "(II)I" } : Jvm.MethodName) jdk_29_method_69_code (2 : Nat) (Option.some Jvm.ClassFile.FieldType.int)).before args0 about1 = true := code_word (m := ⟨5, 1⟩) (meth := k5m1) (c := k5c1) (by decide +kernel) rfl rfl rfl (by decide +kernel)
def codes1 : List Jvm.Cond := [Jvm.Cond.code x code maxLocals ret, Jvm.Cond.code ({ cls := "com/example/slotwise/slotwise/DeparturesPollPinLaw", name := "field", desc := "(JI)I" } : Jvm.MethodName) method_2_code (3 : Nat) (Option.some Jvm.ClassFile.FieldType.int), Jvm.Cond.code ({ cls := "com/example/slotwise/slotwise/Simulation$Connection", name := "<init>", desc := "(DLcom/example/slotwise/slotwise/Route;II)V" } : Jvm.MethodName) prog_33_method_1_code (6 : Nat) (Option.none : Option Jvm.ClassFile.FieldType), Jvm.Cond.code ({ cls := "java/lang/Record", name := "<init>", desc := "()V" } : Jvm.MethodName) jdk_30_method_1_code (1 : Nat) (Option.none : Option Jvm.ClassFile.FieldType), Jvm.Cond.code ({ cls := "java/lang/Object", name := "<init>", desc := "()V" } : Jvm.MethodName) object_method_1_code (1 : Nat) (Option.none : Option Jvm.ClassFile.FieldType), Jvm.Cond.code ({ cls := "com/example/slotwise/slotwise/Departures", name := "<init>", desc := "()V" } : Jvm.MethodName) prog_10_method_1_code (1 : Nat) (Option.none : Option Jvm.ClassFile.FieldType), Jvm.Cond.code ({ cls := "com/example/slotwise/slotwise/Departures", name := "add", desc := "(Lcom/example/slotwise/slotwise/Simulation$Connection;)V" } : Jvm.MethodName) prog_10_method_4_code (6 : Nat) (Option.none : Option Jvm.ClassFile.FieldType), Jvm.Cond.code ({ cls := "com/example/slotwise/slotwise/Simulation$Connection", name := "departure", desc := "()D" } : Jvm.MethodName) prog_33_method_5_code (1 : Nat) (Option.some Jvm.ClassFile.FieldType.double), Jvm.Cond.code ({ cls := "com/example/slotwise/slotwise/Departures", name := "poll", desc := "()Lcom/example/slotwise/slotwise/Simulation$Connection;" } : Jvm.MethodName) prog_10_method_5_code (8 : Nat) (Option.some (Jvm.ClassFile.FieldType.object "com/example/slotwise/slotwise/Simulation$Connection")), Jvm.Cond.code ({ cls := "com/example/slotwise/slotwise/Departures", name := "isEmpty", desc := "()Z" } : Jvm.MethodName) prog_10_method_2_code (1 : Nat) (Option.some Jvm.ClassFile.FieldType.boolean), Jvm.Cond.code ({ cls := "com/example/slotwise/slotwise/DeparturesPollPinLaw", name := "index", desc := "(Lcom/example/slotwise/slotwise/Simulation$Connection;[Lcom/example/slotwise/slotwise/Simulation$Connection;)I" } : Jvm.MethodName) method_3_code (2 : Nat) (Option.some Jvm.ClassFile.FieldType.int), Jvm.Cond.code ({ cls := "com/example/slotwise/slotwise/DeparturesPollPinLaw", name := "minUpTo", desc := "([II)I" } : Jvm.MethodName) method_4_code (3 : Nat) (Option.some Jvm.ClassFile.FieldType.int), Jvm.Cond.code ({ cls := "java/lang/Math", name := "min", desc := "(II)I" } : Jvm.MethodName) jdk_29_method_69_code (2 : Nat) (Option.some Jvm.ClassFile.FieldType.int)]
set_option maxRecDepth 65536 in
theorem codes_eq : words1.filter isCode = codes1 := rfl
theorem w_codes : ∀ c ∈ words1.filter isCode, c.before args0 about1 = true := by
  rw [codes_eq]
  intro c hc
  simp only [codes1, List.mem_cons, List.not_mem_nil, or_false] at hc
  rcases hc with rfl | rfl | rfl | rfl | rfl | rfl | rfl | rfl | rfl | rfl | rfl | rfl | rfl
  · exact w_c0
  · exact w_c1
  · exact w_c2
  · exact w_c3
  · exact w_c4
  · exact w_c5
  · exact w_c6
  · exact w_c7
  · exact w_c8
  · exact w_c9
  · exact w_c10
  · exact w_c11
  · exact w_c12
set_option maxRecDepth 65536 in
theorem w_t1 : (words1.take 24).all (fun c => isCode c || c.before args0 about1) = true := by decide +kernel
set_option maxRecDepth 65536 in
theorem w_t2 : ((words1.drop 24).take 24).all (fun c => isCode c || c.before args0 about1) = true := by decide +kernel
set_option maxRecDepth 65536 in
theorem w_t3 : (((words1.drop 24).drop 24).take 24).all (fun c => isCode c || c.before args0 about1) = true := by decide +kernel
set_option maxRecDepth 65536 in
theorem w_t4 : (((words1.drop 24).drop 24).drop 24).all (fun c => isCode c || c.before args0 about1) = true := by decide +kernel
theorem w_tables : (allAtoms (Jvm.Cond.code x code maxLocals ret :: tables_1)).before args0 about1 = true := by
  rw [allAtoms_all]
  show words1.all (fun c => c.before args0 about1) = true
  refine all_split ?_ w_codes
  rw [← List.take_append_drop 24 words1, List.all_append, w_t1, ← List.take_append_drop 24 (words1.drop 24), List.all_append, w_t2, ← List.take_append_drop 24 ((words1.drop 24).drop 24), List.all_append, w_t3, w_t4]
  rfl
set_option maxRecDepth 65536 in
theorem w_case : (Jvm.Cond.and given_1 narrow_1).before args0 about1 = true := by decide +kernel
theorem w_applies : (headSpec (Jvm.Cond.code x code maxLocals ret :: tables_1) room_1).applies x e0.platform about1 = true :=
  (Spec.applies_iff w_frames).mpr ⟨w_running, w_runnable, w_alone, w_named, w_hears, w_ripe, w_room, w_tables⟩
theorem atStart : AtStart classFile x code maxLocals ret World_1 tables_1 room_1 Calls_1 rest_1 Pre_1 launch0 p0 e0 about1 theMethod args0 below0 :=
  ⟨lists_1, trivial, launch0.admits_env _ _ _, launch0.least_env, fairChoices_fair.cas, fairChoices_fair.clock, w_frames, w_args, w_heap, w_applies, trivial, trivial, w_case⟩
end start1
theorem witness_1 : WitnessClaimed_1 := ⟨start1.p0, start1.e0, start1.about1, start1.theMethod, start1.args0, start1.below0, start1.atStart⟩
end Jvm.Pilot.@@N@@
