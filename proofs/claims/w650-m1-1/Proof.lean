import JvmDerived
import JvmDerived.Pilot.@@N@@Statement
import JvmDerived.Pilot.@@N@@Code
set_option linter.unusedVariables false
set_option linter.unusedSimpArgs false
@@BLOCK:NumsL.lean.txt@@
namespace Jvm.OwnKit
open Sem ClassFile Op Lib Jvm.Stand Jvm.Free Jvm.LawKit Jvm.RoadKit
/-! A small heap of our own: the cells made since the law began, in the order of their making: an array (its component type, its values) or an object (its class, its fields). -/
abbrev Cel := Sum (FieldType × List Value) (String × List (String × String × Value))
abbrev Cont := Nat → List Slot → List Value → List Cel → Nat → Nat → Prop
/-- the address of the i-th cell made -/
def ad (n i : Nat) : Nat := n + i
/-- every field of the list is laid in the class; one name, one descriptor -/
def LaidAll (Z : State) (C : String) (fs : List (String × String × Value)) : Prop := ∃ a0, ∀ f ∈ fs, Laid Z a0 C C f.1 f.2.1 ∧ (∃ ty, parseFieldDescriptor f.2.1 = some ty) ∧ ∀ f' ∈ fs, f'.1 = f.1 → f'.2.1 = f.2.1
def RepC (Z : State) (h : Heap) (a : Addr) : Cel → Prop
  | .inl (ty, vs) => ∃ cl : Cell, Arr Z h a cl ty ∧ cl.slots = vs.toArray
  | .inr (C, fs) => Exa Z h a C ∧ (∀ f ∈ fs, Fld Z h a C f.1 f.2.1 f.2.2) ∧ LaidAll Z C fs
def Rep (Z : State) (b h : Heap) (H : List Cel) : Prop := h.size = b.size + H.length ∧ ∀ i c, H[i]? = some c → RepC Z h (ad b.size i) c
theorem RepC.ext {Z : State} {h h' : Heap} {a : Addr} {c : Cel} (E : Ext h h') (r : RepC Z h a c) : RepC Z h' a c := by
  rcases c with ⟨ty, vs⟩ | ⟨C, fs⟩
  · obtain ⟨cl, A, e⟩ := r; exact ⟨cl, A.ext E, e⟩
  · exact ⟨r.1.ext E, fun f hf => (r.2.1 f hf).ext E, r.2.2⟩
theorem Rep.push {Z : State} {b h h' : Heap} {H : List Cel} {c : Cel} (r : Rep Z b h H) (E : Ext h h') (hs : h'.size = h.size + 1) (hc : RepC Z h' h.size c) : Rep Z b h' (H ++ [c]) := by
  refine ⟨by rw [hs, r.1]; simp [Nat.add_assoc], fun i c' hi => ?_⟩
  rcases Nat.lt_trichotomy i H.length with q | q | q
  · rw [List.getElem?_append_left q] at hi
    exact (r.2 i c' hi).ext E
  · subst q
    simp at hi; subst hi
    have e : ad b.size H.length = h.size := by rw [r.1]; rfl
    rw [e]; exact hc
  · rw [List.getElem?_eq_none (by simp; omega)] at hi; cases hi
theorem RepC.other {Z : State} {h h' : Heap} {a a' : Addr} {sl : Nat} {v : Value} {c : Cel} (W : Wr h h' a' sl v) (hne : a ≠ a') (r : RepC Z h a c) : RepC Z h' a c := by
  rcases c with ⟨ty, vs⟩ | ⟨C, fs⟩
  · obtain ⟨cl, A, e⟩ := r; exact ⟨cl, A.other W hne, e⟩
  · exact ⟨r.1.wr W, fun f hf => (r.2.1 f hf).other W (Or.inl hne), r.2.2⟩
theorem Rep.set {Z : State} {b h h' : Heap} {H : List Cel} {i : Nat} {c' : Cel} {sl : Nat} {v : Value} (r : Rep Z b h H) (W : Wr h h' (ad b.size i) sl v) (hc : RepC Z h' (ad b.size i) c') : Rep Z b h' (H.set i c') := by
  refine ⟨by rw [W.size, r.1]; simp, fun j c hj => ?_⟩
  by_cases e : j = i
  · subst e
    by_cases q : j < H.length
    · rw [List.getElem?_set_self q] at hj; cases hj; exact hc
    · rw [List.getElem?_eq_none (by simp; omega)] at hj; cases hj
  · rw [List.getElem?_set_ne (Ne.symm e)] at hj
    exact (r.2 j c hj).other W (by simp [ad]; omega)
theorem Rep.setArr {Z : State} {b h h' : Heap} {H : List Cel} {i : Nat} {ty : FieldType} {vs : List Value} {sl : Nat} {v : Value} (r : Rep Z b h H) (hi : H[i]? = some (.inl (ty, vs))) (W : Wr h h' (ad b.size i) sl v) : Rep Z b h' (H.set i (.inl (ty, vs.set sl v))) := by
  obtain ⟨cl, A, e⟩ := r.2 i _ hi
  exact r.set W ⟨_, A.same W, by simp [Cell.setSlot, e]⟩

/-! Where the walk stands, in plain words: from here the invocation ends, and what it returns and leaves fits K. -/
def G (code : ByteArray) (own nm : String) (maxL : Nat) (ret : Option FieldType) (R : Room) (W : List Jvm.Cond) (l : Launch) (Z : State) (b : Heap) (rc rs : Nat) (K : Option Value → List Cel → Prop)
    (pc : Nat) (ls : List Slot) (st : List Value) (H : List Cel) (cN sN : Nat) : Prop :=
  ∀ (p : Program) (e : Env) (s : State) (m : MethodId) (args : Array Value) (below : List Frame) (meth : Method) (c : Code) (T : State) (locs : List Loc) (a0 : Array Value),
    p.tables.exec = Jvm.exec → c.code = code → c.maxLocals = maxL → meth.sig.returnType = ret → meth.locks = false → meth.name = nm → Z.Warmed39 s.vm → s.vm.findClass own = some m.cls → (∀ d ∈ W, d.before a0 Z = true) →
    Stand p l e R s m args below meth c T locs cN sN → Fr b.size locs → Rep Z b T.heap H →
    ∃ s₂ o, Steps p.tables e below (T.setTop (mkF m pc ls.toArray st)) s₂ ∧ s₂.status = .running ∧ Ended s₂ below o ∧ ∃ v L, o = .returned v ∧ (Fr b.size L ∧ ∃ H', Rep Z b s₂.heap H' ∧ K v H') ∧ FrameEnd s o s₂ L rc rs
/-- what a method does, at these arguments and this heap -/
def Con (W : List Jvm.Cond) (l : Launch) (Z : State) (b : Heap) (y : MethodName) (bytes : ByteArray) (maxL : Nat) (ret : Option FieldType) (rm : Room) (as : List Value) (H : List Cel) (K : Option Value → List Cel → Prop) : Prop :=
  ∀ (a0 : Array Value) (h : Heap), (∀ d ∈ W, d.before a0 Z = true) → Rep Z b h H →
    MetFree l y (head1 [Jvm.Cond.code y bytes maxL ret] rm) (fun a U => a = as.toArray ∧ Z.Warmed39 U.vm ∧ U.heap = h) (fun _ _ _ _ _ => True)
      (fun _ U o U' => ∃ v L, o = .returned v ∧ (Fr b.size L ∧ ∃ H', Rep Z b U'.heap H' ∧ K v H') ∧ FrameEnd U o U' L rm.cells rm.slots)

section Steps
variable {code : ByteArray} {own nm : String} {maxL : Nat} {ret : Option FieldType} {R : Room} {W : List Jvm.Cond} {l : Launch} {Z : State} {b : Heap} {rc rs : Nat} {K : Option Value → List Cel → Prop}
variable {pc pc' : Nat} {ls ls' : List Slot} {st st' : List Value} {H H' : List Cel} {cN sN cN' sN' : Nat}
/-- a step that moves the frame alone -/
theorem G.pure (f : ∀ (p : Program) (e : Env) (s : State) (m : MethodId) (args : Array Value) (below : List Frame) (meth : Method) (c : Code) (T : State) (locs : List Loc) (a0 : Array Value),
      p.tables.exec = Jvm.exec → c.code = code → Z.Warmed39 s.vm → s.vm.findClass own = some m.cls → (∀ d ∈ W, d.before a0 Z = true) → Stand p l e R s m args below meth c T locs cN sN → Rep Z b T.heap H →
      ∀ target, Steps p.tables e below (T.setTop (mkF m pc' ls'.toArray st')) target → Steps p.tables e below (T.setTop (mkF m pc ls.toArray st)) target)
    (h : G code own nm maxL ret R W l Z b rc rs K pc' ls' st' H cN sN) : G code own nm maxL ret R W l Z b rc rs K pc ls st H cN sN := by
  intro p e s m args below meth c T locs a0 hx hc hm hr hk hn hZ ho hw X hF hR
  obtain ⟨s₂, o, h1, h2⟩ := h p e s m args below meth c T locs a0 hx hc hm hr hk hn hZ ho hw X hF hR
  exact ⟨s₂, o, f p e s m args below meth c T locs a0 hx hc hZ ho hw X hR _ h1, h2⟩
/-- a step that moves the heap too -/
theorem G.move (f : ∀ (p : Program) (e : Env) (s : State) (m : MethodId) (args : Array Value) (below : List Frame) (meth : Method) (c : Code) (T : State) (locs : List Loc) (a0 : Array Value),
      p.tables.exec = Jvm.exec → c.code = code → c.maxLocals = maxL → meth.name = nm → Z.Warmed39 s.vm → s.vm.findClass own = some m.cls → (∀ d ∈ W, d.before a0 Z = true) → Stand p l e R s m args below meth c T locs cN sN → Fr b.size locs → Rep Z b T.heap H →
      ∃ T' locs', Stand p l e R s m args below meth c T' locs' cN' sN' ∧ Fr b.size locs' ∧ Rep Z b T'.heap H' ∧
        ∀ target, Steps p.tables e below (T'.setTop (mkF m pc' ls'.toArray st')) target → Steps p.tables e below (T.setTop (mkF m pc ls.toArray st)) target)
    (h : G code own nm maxL ret R W l Z b rc rs K pc' ls' st' H' cN' sN') : G code own nm maxL ret R W l Z b rc rs K pc ls st H cN sN := by
  intro p e s m args below meth c T locs a0 hx hc hm hr hk hn hZ ho hw X hF hR
  obtain ⟨T', locs', X', hF', hR', st⟩ := f p e s m args below meth c T locs a0 hx hc hm hn hZ ho hw X hF hR
  obtain ⟨s₂, o, h1, h2⟩ := h p e s m args below meth c T' locs' a0 hx hc hm hr hk hn hZ ho hw X' hF' hR'
  exact ⟨s₂, o, st _ h1, h2⟩
/-- the return -/
theorem G.leave {v : Option Value} (hv : ret = none → v = none)
    (f : ∀ (p : Program) (e : Env) (s : State) (m : MethodId) (args : Array Value) (below : List Frame) (meth : Method) (c : Code) (T : State) (locs : List Loc),
      p.tables.exec = Jvm.exec → c.code = code → meth.sig.returnType = ret → Stand p l e R s m args below meth c T locs cN sN →
      ∀ fs, (∀ (f : JFrame) (acts : List Action), f.method = m → f.locked = none → f.entered = [] → (doReturn e (T.setTop f) acts v).1 = T.setFrames fs) →
      Steps p.tables e below (T.setTop (mkF m pc ls.toArray st)) (T.setFrames fs))
    (hc : cN ≤ rc) (hs : sN ≤ rs) (hK : K v H) : G code own nm maxL ret R W l Z b rc rs K pc ls st H cN sN := by
  intro p e s m args below meth c T locs a0 hx hcd hm hr hk hn hZ ho hw X hF hR
  obtain ⟨fs, hfs, hrun, hended, hW, hsame⟩ := X.leave (v := v) (fun q => hv (hr ▸ q)) hk
  exact ⟨_, _, f p e s m args below meth c T locs hx hcd hr X fs hfs, hrun, hended, v, locs, rfl, ⟨hF, H, hR, hK⟩, ⟨v, rfl⟩, hW, hsame.mono hc hs⟩
/-- a walk from the entry, as a free contract -/
theorem G.met {y : MethodName} {rm : Room} {as : List Value} {ws : List Jvm.Cond} (hy : plainFor y = true) (ef : ∀ m, entryFrame m as.toArray maxL = mkF m 0 ls.toArray [])
    (g : G code y.cls y.name maxL ret rm W l Z b rc rs K 0 ls [] H 0 0) (a0 : Array Value) (h : Heap) (hw : ∀ d ∈ W, d.before a0 Z = true) (hR : Rep Z b h H) :
    MetFree l y (head1 (Jvm.Cond.code y code maxL ret :: ws) rm) (fun a U => a = as.toArray ∧ Z.Warmed39 U.vm ∧ U.heap = h) (fun _ _ _ _ _ => True)
      (fun _ U o U' => ∃ v L, o = .returned v ∧ (Fr b.size L ∧ ∃ H', Rep Z b U'.heap H' ∧ K v H') ∧ FrameEnd U o U' L rc rs) := by
  refine MetFree.of_bodySF hy hisR ?_
  intro p e s m args below meth c s₁ Bd hml hP _
  obtain ⟨rfl, hZ, hh⟩ := hP
  have X0 : Stand p l e rm s m as.toArray below meth c s₁ [] 0 0 := Stand.of_body Bd
  have e0 : s₁.heap = h := by rw [← hh, Bd.state]; rfl
  obtain ⟨s₂, o, h1, h2, h3, v, L, h4, h5, h6⟩ := g p e s m _ below meth c s₁ [] a0 Bd.exec Bd.bytes hml Bd.returns Bd.notSynchronized (name_of_methodNamed Bd.named Bd.method).1 hZ (findClass_of_methodNamed Bd.named) hw X0 (Fr.nil _) (by rw [e0]; exact hR)
  exact ⟨s₂, o, castTop (ef m) h1, h2, h3, v, L, h4, h5, h6⟩
theorem G.con {y : MethodName} {rm : Room} {as : List Value} (hy : plainFor y = true) (ef : ∀ m, entryFrame m as.toArray maxL = mkF m 0 ls.toArray [])
    (g : G code y.cls y.name maxL ret rm W l Z b rm.cells rm.slots K 0 ls [] H 0 0) : Con W l Z b y code maxL ret rm as H K := fun a0 h hw hR => G.met hy ef g a0 h hw hR
/-- just this is returned, just this heap left -/
def is (v : Option Value) (H : List Cel) : Option Value → List Cel → Prop := fun v' H' => v' = v ∧ H' = H
/-- some byte is returned, the heap left as it was -/
def byt (H : List Cel) : Option Value → List Cel → Prop := fun v H' => ∃ y, v = some (.int y) ∧ nar .byte y = y ∧ H' = H
theorem is_self {v : Option Value} {H : List Cel} : is v H v H := ⟨rfl, rfl⟩
end Steps
end Jvm.OwnKit
namespace Jvm.OwnKit
open Sem ClassFile Op Lib Jvm.Stand Jvm.Free Jvm.LawKit Jvm.RoadKit
def popI (st : List Value) (f : Int32 → List Value → Prop) : Prop := match st with | .int x :: r => f x r | _ => False
def popJ (st : List Value) (f : Int64 → List Value → Prop) : Prop := match st with | .long x :: r => f x r | _ => False
def popR (st : List Value) (f : Nat → List Value → Prop) : Prop := match st with | .ref x :: r => f x r | _ => False
def pop1 (st : List Value) (f : Value → List Value → Prop) : Prop := match st with | .int x :: r => f (.int x) r | .ref x :: r => f (.ref x) r | .null :: r => f .null r | _ => False
def popA (st : List Value) (f : Value → List Value → Prop) : Prop := match st with | .ref x :: r => f (.ref x) r | .null :: r => f .null r | _ => False
theorem popI_c {x : Int32} {r : List Value} {f : Int32 → List Value → Prop} : popI (.int x :: r) f = f x r := propext Iff.rfl
theorem popJ_c {x : Int64} {r : List Value} {f : Int64 → List Value → Prop} : popJ (.long x :: r) f = f x r := propext Iff.rfl
theorem popR_c {x : Nat} {r : List Value} {f : Nat → List Value → Prop} : popR (.ref x :: r) f = f x r := propext Iff.rfl
theorem pop1_i {x : Int32} {r : List Value} {f : Value → List Value → Prop} : pop1 (.int x :: r) f = f (.int x) r := propext Iff.rfl
theorem pop1_r {x : Nat} {r : List Value} {f : Value → List Value → Prop} : pop1 (.ref x :: r) f = f (.ref x) r := propext Iff.rfl
theorem pop1_n {r : List Value} {f : Value → List Value → Prop} : pop1 (.null :: r) f = f .null r := propext Iff.rfl
theorem popA_r {x : Nat} {r : List Value} {f : Value → List Value → Prop} : popA (.ref x :: r) f = f (.ref x) r := propext Iff.rfl
theorem popA_n {r : List Value} {f : Value → List Value → Prop} : popA (.null :: r) f = f .null r := propext Iff.rfl
theorem popI_e {st : List Value} {f : Int32 → List Value → Prop} (h : popI st f) : ∃ x r, st = .int x :: r ∧ f x r := by unfold popI at h; split at h <;> first | exact ⟨_, _, rfl, h⟩ | exact h.elim
theorem popJ_e {st : List Value} {f : Int64 → List Value → Prop} (h : popJ st f) : ∃ x r, st = .long x :: r ∧ f x r := by unfold popJ at h; split at h <;> first | exact ⟨_, _, rfl, h⟩ | exact h.elim
theorem popR_e {st : List Value} {f : Nat → List Value → Prop} (h : popR st f) : ∃ x r, st = .ref x :: r ∧ f x r := by unfold popR at h; split at h <;> first | exact ⟨_, _, rfl, h⟩ | exact h.elim
theorem pop1_e {st : List Value} {f : Value → List Value → Prop} (h : pop1 st f) : ∃ x r, st = x :: r ∧ x.category = 1 ∧ f x r := by unfold pop1 at h; split at h <;> first | exact ⟨_, _, rfl, rfl, h⟩ | exact h.elim
theorem popA_e {st : List Value} {f : Value → List Value → Prop} (h : popA st f) : ∃ x r, st = x :: r ∧ x.isRef = true ∧ x.category = 1 ∧ f x r := by unfold popA at h; split at h <;> first | exact ⟨_, _, rfl, rfl, rfl, h⟩ | exact h.elim
/-! the local variables -/
def ldI (ls : List Slot) (k : Nat) (f : Int32 → Prop) : Prop := match ls[k]? with | some (.val (.int v)) => f v | _ => False
def ldJ (ls : List Slot) (k : Nat) (f : Int64 → Prop) : Prop := match ls[k]? with | some (.val (.long v)) => f v | _ => False
def ldA (ls : List Slot) (k : Nat) (f : Value → Prop) : Prop := match ls[k]? with | some (.val (.ref v)) => f (.ref v) | some (.val .null) => f .null | _ => False
theorem ldI_z {v : Int32} {r : List Slot} {f : Int32 → Prop} : ldI (.val (.int v) :: r) 0 f = f v := propext Iff.rfl
theorem ldJ_z {v : Int64} {r : List Slot} {f : Int64 → Prop} : ldJ (.val (.long v) :: r) 0 f = f v := propext Iff.rfl
theorem ldA_z {v : Nat} {r : List Slot} {f : Value → Prop} : ldA (.val (.ref v) :: r) 0 f = f (.ref v) := propext Iff.rfl
theorem ldA_n {r : List Slot} {f : Value → Prop} : ldA (.val .null :: r) 0 f = f .null := propext Iff.rfl
theorem ldI_s {x : Slot} {r : List Slot} {k : Nat} {f : Int32 → Prop} : ldI (x :: r) (k + 1) f = ldI r k f := propext Iff.rfl
theorem ldJ_s {x : Slot} {r : List Slot} {k : Nat} {f : Int64 → Prop} : ldJ (x :: r) (k + 1) f = ldJ r k f := propext Iff.rfl
theorem ldA_s {x : Slot} {r : List Slot} {k : Nat} {f : Value → Prop} : ldA (x :: r) (k + 1) f = ldA r k f := propext Iff.rfl
theorem ldI_e {ls : List Slot} {k : Nat} {f : Int32 → Prop} (h : ldI ls k f) : ∃ v, ls[k]? = some (.val (.int v)) ∧ f v := by unfold ldI at h; split at h <;> first | exact ⟨_, by assumption, h⟩ | exact h.elim
theorem ldJ_e {ls : List Slot} {k : Nat} {f : Int64 → Prop} (h : ldJ ls k f) : ∃ v, ls[k]? = some (.val (.long v)) ∧ f v := by unfold ldJ at h; split at h <;> first | exact ⟨_, by assumption, h⟩ | exact h.elim
theorem ldA_e {ls : List Slot} {k : Nat} {f : Value → Prop} (h : ldA ls k f) : ∃ v, ls[k]? = some (.val v) ∧ v.isRef = true ∧ f v := by unfold ldA at h; split at h <;> first | exact ⟨_, by assumption, rfl, h⟩ | exact h.elim
/-- a store of one word: where it falls into half of a long, the other half is unset -/
def sto1 (ls : List Slot) (k : Nat) (v : Value) (f : List Slot → Prop) : Prop := match ls[k]? with
  | some .unset => f (ls.set k (.val v))
  | some (.val (.int _)) => f (ls.set k (.val v))
  | some (.val (.ref _)) => f (ls.set k (.val v))
  | some (.val .null) => f (ls.set k (.val v))
  | _ => False
/-- a store of two words, over places that hold no half of another long; or over the very same long -/
def free1 (o : Option Slot) : Bool := match o with | some .unset => true | some (.val (.int _)) => true | some (.val (.ref _)) => true | some (.val .null) => true | _ => false
def sto2 (ls : List Slot) (k : Nat) (v : Value) (f : List Slot → Prop) : Prop := match ls[k]? with
  | some (.val (.long _)) => ls[k + 1]? = some .second ∧ f ((ls.set k (.val v)).set (k + 1) .second)
  | o => free1 o = true ∧ free1 ls[k + 1]? = true ∧ f ((ls.set k (.val v)).set (k + 1) .second)
theorem sto1_u {r : List Slot} {v : Value} {f : List Slot → Prop} : sto1 (.unset :: r) 0 v f = f (.val v :: r) := propext Iff.rfl
theorem sto1_i {x : Int32} {r : List Slot} {v : Value} {f : List Slot → Prop} : sto1 (.val (.int x) :: r) 0 v f = f (.val v :: r) := propext Iff.rfl
theorem sto1_r {x : Nat} {r : List Slot} {v : Value} {f : List Slot → Prop} : sto1 (.val (.ref x) :: r) 0 v f = f (.val v :: r) := propext Iff.rfl
theorem sto1_n {r : List Slot} {v : Value} {f : List Slot → Prop} : sto1 (.val .null :: r) 0 v f = f (.val v :: r) := propext Iff.rfl
theorem sto1_s {x : Slot} {r : List Slot} {k : Nat} {v : Value} {f : List Slot → Prop} : sto1 (x :: r) (k + 1) v f = sto1 r k v fun l => f (x :: l) := propext Iff.rfl
theorem sto2_u {r : List Slot} {v : Value} {f : List Slot → Prop} : sto2 (.unset :: .unset :: r) 0 v f = f (.val v :: .second :: r) := by simp [sto2, free1]
theorem sto2_l {x : Int64} {r : List Slot} {v : Value} {f : List Slot → Prop} : sto2 (.val (.long x) :: .second :: r) 0 v f = f (.val v :: .second :: r) := by simp [sto2]
theorem sto2_s {x : Slot} {r : List Slot} {k : Nat} {v : Value} {f : List Slot → Prop} : sto2 (x :: r) (k + 1) v f = sto2 r k v fun l => f (x :: l) := by simp [sto2]
theorem sto1_e {ls : List Slot} {k : Nat} {v : Value} {f : List Slot → Prop} (hv : v.category = 1) (h : sto1 ls k v f) : ∃ l', storeLocals ls.toArray k v = some l'.toArray ∧ f l' := by
  unfold sto1 at h
  split at h
  all_goals first
    | exact h.elim
    | (rename_i q
       refine ⟨_, ?_, h⟩
       rw [storeLocals_cat1 (by rw [List.getElem?_toArray]; exact q) hv (by first | exact trivial | rfl)]
       simp)
theorem free1_e {o : Option Slot} (h : free1 o = true) : ∃ x, o = some x ∧ (x = .unset ∨ ∃ w, x = .val w ∧ w.category = 1) := by
  unfold free1 at h
  split at h
  all_goals first
    | exact ⟨_, rfl, Or.inl rfl⟩
    | exact ⟨_, rfl, Or.inr ⟨_, rfl, rfl⟩⟩
    | cases h
theorem sto2_e {ls : List Slot} {k : Nat} {v : Value} {f : List Slot → Prop} (hv : v.category = 2) (h : sto2 ls k v f) : ∃ l', storeLocals ls.toArray k v = some l'.toArray ∧ f l' := by
  unfold sto2 at h
  split at h
  · rename_i w q
    obtain ⟨q1, h⟩ := h
    refine ⟨_, ?_, h⟩
    rw [Fl.storeLocals_cat2 (by rw [List.getElem?_toArray]; exact q) (by rw [List.getElem?_toArray]; exact q1) hv (Or.inr ⟨⟨_, rfl, rfl⟩, rfl⟩)]
    simp
  · rename_i o _
    obtain ⟨q, q1, h⟩ := h
    refine ⟨_, ?_, h⟩
    obtain ⟨x, q, hx⟩ := free1_e q
    obtain ⟨x1, q1, hx1⟩ := free1_e q1
    have px : Fl.Plain1 x := by rcases hx with rfl | ⟨w, rfl, hw⟩ <;> first | exact trivial | exact hw
    have px1 : Fl.Plain1 x1 := by rcases hx1 with rfl | ⟨w, rfl, hw⟩ <;> first | exact trivial | exact hw
    rw [Fl.storeLocals_cat2 (by rw [List.getElem?_toArray]; exact q) (by rw [List.getElem?_toArray]; exact q1) hv (Or.inl ⟨px, px1⟩)]
    simp
/-! the cells -/
def arrI (H : List Cel) (i : Nat) (f : FieldType → List Value → Prop) : Prop := match H[i]? with | some (.inl (ty, vs)) => f ty vs | _ => False
def arr (H : List Cel) (n a : Nat) (f : Nat → FieldType → List Value → Prop) : Prop := ∃ i, a = ad n i ∧ arrI H i (f i)
theorem arrI_z {ty : FieldType} {vs : List Value} {H : List Cel} {f : FieldType → List Value → Prop} : arrI (.inl (ty, vs) :: H) 0 f = f ty vs := propext Iff.rfl
theorem arrI_s {c : Cel} {H : List Cel} {i : Nat} {f : FieldType → List Value → Prop} : arrI (c :: H) (i + 1) f = arrI H i f := propext Iff.rfl
theorem arr_c {H : List Cel} {n i : Nat} {f : Nat → FieldType → List Value → Prop} : arr H n (ad n i) f = arrI H i (f i) :=
  propext ⟨fun ⟨j, e, h⟩ => by obtain rfl : i = j := by simp [ad] at e; exact e
                               exact h, fun h => ⟨i, rfl, h⟩⟩
theorem arr_e {H : List Cel} {n a : Nat} {f : Nat → FieldType → List Value → Prop} (h : arr H n a f) : ∃ i ty vs, a = ad n i ∧ H[i]? = some (.inl (ty, vs)) ∧ f i ty vs := by
  obtain ⟨i, e, h⟩ := h
  unfold arrI at h
  split at h
  · exact ⟨i, _, _, e, by assumption, h⟩
  · exact h.elim
def idxN (vs : List Value) (n : Nat) (f : Value → Prop) : Prop := match vs[n]? with | some v => f v | none => False
theorem idxN_z {v : Value} {vs : List Value} {f : Value → Prop} : idxN (v :: vs) 0 f = f v := propext Iff.rfl
theorem idxN_s {v : Value} {vs : List Value} {n : Nat} {f : Value → Prop} : idxN (v :: vs) (n + 1) f = idxN vs n f := propext Iff.rfl
theorem idxN_c {v : Value} {vs : List Value} {n : Nat} {f : Value → Prop} : idxN (v :: vs) n f = if n = 0 then f v else idxN vs (n - 1) f := by cases n <;> simp [idxN]
def idx (vs : List Value) (j : Int32) (f : Value → Prop) : Prop := if j < 0 then False else idxN vs j.toNatClampNeg f
theorem idx_c {vs : List Value} {j : Int32} {f : Value → Prop} : idx vs j f = if j < 0 then False else idxN vs j.toNatClampNeg f := propext Iff.rfl
theorem idx_e {vs : List Value} {j : Int32} {f : Value → Prop} (h : idx vs j f) : ¬ j < 0 ∧ ∃ v, vs[j.toNatClampNeg]? = some v ∧ f v := by
  unfold idx at h
  split at h
  · exact h.elim
  · rename_i h1
    unfold idxN at h
    split at h
    · exact ⟨h1, _, by assumption, h⟩
    · exact h.elim
/-- the list with its n-th place set -/
def setN (vs : List Value) (n : Nat) (v : Value) (f : List Value → Prop) : Prop := f (vs.set n v)
theorem setN_c {x v : Value} {vs : List Value} {n : Nat} {f : List Value → Prop} : setN (x :: vs) n v f = if n = 0 then f (v :: vs) else setN vs (n - 1) v fun l => f (x :: l) := by cases n <;> simp [setN]
def setL (vs : List Slot) (n : Nat) (v : Slot) (f : List Slot → Prop) : Prop := f (vs.set n v)
theorem setL_z {x v : Slot} {vs : List Slot} {f : List Slot → Prop} : setL (x :: vs) 0 v f = f (v :: vs) := propext Iff.rfl
theorem setL_s {x v : Slot} {vs : List Slot} {n : Nat} {f : List Slot → Prop} : setL (x :: vs) (n + 1) v f = setL vs n v fun l => f (x :: l) := propext Iff.rfl
def setH (H : List Cel) (n : Nat) (v : Cel) (f : List Cel → Prop) : Prop := f (H.set n v)
theorem setH_z {x v : Cel} {H : List Cel} {f : List Cel → Prop} : setH (x :: H) 0 v f = f (v :: H) := propext Iff.rfl
theorem setH_s {x v : Cel} {H : List Cel} {n : Nat} {f : List Cel → Prop} : setH (x :: H) (n + 1) v f = setH H n v fun l => f (x :: l) := propext Iff.rfl
def snoc (H : List Cel) (c : Cel) (f : List Cel → Prop) : Prop := f (H ++ [c])
theorem snoc_z {c : Cel} {f : List Cel → Prop} : snoc [] c f = f [c] := propext Iff.rfl
theorem snoc_s {x c : Cel} {H : List Cel} {f : List Cel → Prop} : snoc (x :: H) c f = snoc H c fun l => f (x :: l) := propext Iff.rfl
def onLen (H : List Cel) (f : Nat → Prop) : Prop := f H.length
theorem onLen_0 {f : Nat → Prop} : onLen [] f = f 0 := propext Iff.rfl
theorem onLen_1 {a : Cel} {f : Nat → Prop} : onLen [a] f = f 1 := propext Iff.rfl
theorem onLen_2 {a c : Cel} {f : Nat → Prop} : onLen [a, c] f = f 2 := propext Iff.rfl
theorem onLen_3 {a c d : Cel} {f : Nat → Prop} : onLen [a, c, d] f = f 3 := propext Iff.rfl
theorem onLen_4 {a c d e : Cel} {f : Nat → Prop} : onLen [a, c, d, e] f = f 4 := propext Iff.rfl
/-- a new array's values: n of them, all alike -/
def repN (n : Nat) (v : Value) (f : List Value → Prop) : Prop := f (List.replicate n v)
theorem repN_c {n : Nat} {v : Value} {f : List Value → Prop} : repN n v f = if n = 0 then f [] else repN (n - 1) v fun l => f (v :: l) := by cases n <;> simp [repN, List.replicate_succ]
def objI (H : List Cel) (i : Nat) (f : String → List (String × String × Value) → Prop) : Prop := match H[i]? with | some (.inr (C, fs)) => f C fs | _ => False
def obj (H : List Cel) (n a : Nat) (f : Nat → String → List (String × String × Value) → Prop) : Prop := ∃ i, a = ad n i ∧ objI H i (f i)
theorem objI_z {C : String} {fs : List (String × String × Value)} {H : List Cel} {f : String → List (String × String × Value) → Prop} : objI (.inr (C, fs) :: H) 0 f = f C fs := propext Iff.rfl
theorem objI_s {c : Cel} {H : List Cel} {i : Nat} {f : String → List (String × String × Value) → Prop} : objI (c :: H) (i + 1) f = objI H i f := propext Iff.rfl
theorem obj_c {H : List Cel} {n i : Nat} {f : Nat → String → List (String × String × Value) → Prop} : obj H n (ad n i) f = objI H i (f i) :=
  propext ⟨fun ⟨j, e, h⟩ => by obtain rfl : i = j := by simp [ad] at e; exact e
                               exact h, fun h => ⟨i, rfl, h⟩⟩
theorem obj_e {H : List Cel} {n a : Nat} {f : Nat → String → List (String × String × Value) → Prop} (h : obj H n a f) : ∃ i C fs, a = ad n i ∧ H[i]? = some (.inr (C, fs)) ∧ f i C fs := by
  obtain ⟨i, e, h⟩ := h
  unfold objI at h
  split at h
  · exact ⟨i, _, _, e, by assumption, h⟩
  · exact h.elim
theorem ifF_e {c : Prop} [Decidable c] {h : Prop} (q : if c then h else False) : c ∧ h := by split at q <;> first | exact ⟨by assumption, q⟩ | exact q.elim
/-- a branch's target -/
def tgt (pc : Nat) (o : Int) (f : Nat → Prop) : Prop := f ((pc : Int) + o).toNat
def look {α : Type} : List (Nat × α) → Nat → Option α
  | [], _ => none
  | (k, v) :: r, n => if n = k then some v else look r n
theorem look_z {α : Type} {k : Nat} {v : α} {r : List (Nat × α)} : look ((k, v) :: r) k = some v := by simp [look]
theorem look_s {α : Type} {k n : Nat} {v : α} {r : List (Nat × α)} (h : (n = k) = False) : look ((k, v) :: r) n = look r n := by simp [look, h]
theorem look_mem {α : Type} {L : List (Nat × α)} {n : Nat} {v : α} (h : look L n = some v) : (n, v) ∈ L := by
  induction L with
  | nil => cases h
  | cons x r ih =>
    obtain ⟨k, w⟩ := x
    unfold look at h
    split at h
    · rename_i e; cases h; subst e; exact List.mem_cons_self ..
    · exact List.mem_cons_of_mem _ (ih h)
def onSome {α : Type} (o : Option α) (f : α → Prop) : Prop := match o with | some v => f v | none => False
theorem onSome_c {α : Type} {v : α} {f : α → Prop} : onSome (some v) f = f v := propext Iff.rfl
theorem onSome_e {α : Type} {o : Option α} {f : α → Prop} (h : onSome o f) : ∃ v, o = some v ∧ f v := by unfold onSome at h; split at h <;> first | exact ⟨_, rfl, h⟩ | exact h.elim
/-- Java's int remainder, as the model spells it -/
def remI (x y : Int32) : Int32 := x - (x / y) * y
def remJ (x y : Int64) : Int64 := x - (x / y) * y
def retv (t : FieldType) (x : Int32) : Int32 := nar t x
def ilen : Instr → Nat
  | .aload _ | .astore _ | .iload _ | .istore _ | .lload _ | .lstore _ | .bipush _ | .ldc _ | .newarray _ => 2
  | .sipush _ | .ldc2_w _ | .ldc_w _ | .iinc _ _ | .goto _ | .ifCond _ _ | .if_icmp _ _ | .ifnull _ | .ifnonnull _ | .new _ | .getfield _ | .putfield _ | .invokestatic _ | .invokespecial _ | .invokevirtual _ | .checkcast _ | .anewarray _ => 3
  | _ => 1
def off : Instr → Int
  | .goto o | .ifCond _ o | .if_icmp _ o | .ifnull o | .ifnonnull o => o
  | _ => 0
def at1 (code : ByteArray) (pc : Nat) : Option Instr := match decode code pc with
  | .ok (i, n) => if n = ilen i ∧ 0 ≤ (pc : Int) + off i then some i else none
  | _ => none
theorem at1_of {code : ByteArray} {pc n : Nat} {i : Instr} (h : decode code pc = .ok (i, n)) (hn : n = ilen i) (ho : 0 ≤ (pc : Int) + off i) : at1 code pc = some i := by
  simp [at1, h, hn, ho]
theorem at1_o {code : ByteArray} {pc : Nat} {i : Instr} (h : at1 code pc = some i) : decode code pc = .ok (i, ilen i) ∧ 0 ≤ (pc : Int) + off i := by
  unfold at1 at h
  split at h
  · rename_i j n q
    split at h
    · rename_i e; cases h; rw [q, e.1]; exact ⟨rfl, e.2⟩
    · cases h
  · cases h
theorem at1_e {code : ByteArray} {pc : Nat} {i : Instr} (h : at1 code pc = some i) : decode code pc = .ok (i, ilen i) := (at1_o h).1

def fget (fs : List (String × String × Value)) (n d : String) : Option Value := match fs with
  | [] => none
  | (n', d', v) :: r => if n = n' ∧ d = d' then some v else fget r n d
theorem fget_mem {fs : List (String × String × Value)} {n d : String} {v : Value} (h : fget fs n d = some v) : (n, d, v) ∈ fs := by
  induction fs with
  | nil => cases h
  | cons x r ih =>
    obtain ⟨n', d', w⟩ := x
    unfold fget at h
    split at h
    · rename_i e; cases h; obtain ⟨rfl, rfl⟩ := e; exact List.mem_cons_self ..
    · exact List.mem_cons_of_mem _ (ih h)
def fgt (fs : List (String × String × Value)) (n d : String) (f : Value → Prop) : Prop := onSome (fget fs n d) f
theorem fgt_c {n n' d d' : String} {v : Value} {r : List (String × String × Value)} {f : Value → Prop} : fgt ((n', d', v) :: r) n d f = if n = n' ∧ d = d' then f v else fgt r n d f := by
  unfold fgt
  rw [fget]
  split <;> rfl
theorem nar_bb {x : Int32} : nar .byte (nar .byte x) = nar .byte x := by simp [nar]
theorem nar_cc {x : Int32} : nar .char (nar .char x) = nar .char x := by simp only [nar, UInt32.toUInt32_toInt32, UInt16.toUInt16_toUInt32]
theorem nar_b0 : nar .boolean 0 = 0 := by decide
theorem nar_b1 : nar .boolean 1 = 1 := by decide
theorem i32_nl {x y : Int32} (h : x < y) : (x = y) = False := eq_false fun e => by subst e; exact Int32.lt_irrefl h
theorem i32_ng {x y : Int32} (h : y < x) : (x = y) = False := eq_false fun e => by subst e; exact Int32.lt_irrefl h
theorem i64_nl {x y : Int64} (h : x < y) : (x = y) = False := eq_false fun e => by subst e; exact Int64.lt_irrefl h
theorem i64_ng {x y : Int64} (h : y < x) : (x = y) = False := eq_false fun e => by subst e; exact Int64.lt_irrefl h
theorem cmpL_lt {x y : Int64} : (XT.cmpL x y < 0) = (x < y) := by
  have h1 := @Int64.lt_iff_toInt_lt x y
  have h2 := @Int64.lt_iff_toInt_lt y x
  have h3 : x = y ↔ x.toInt = y.toInt := Int64.toInt_inj.symm
  unfold XT.cmpL
  split
  · rw [show ((1 : Int32) < 0) = False by decide]; simp only [h1, h2, h3] at *; exact propext ⟨False.elim, fun _ => by omega⟩
  · split
    · rw [show ((0 : Int32) < 0) = False by decide]; simp only [h1, h2, h3] at *; exact propext ⟨False.elim, fun _ => by omega⟩
    · rw [show ((-1 : Int32) < 0) = True by decide]; simp only [h1, h2, h3] at *; exact propext ⟨fun _ => by omega, fun _ => trivial⟩
theorem cmpL_gt {x y : Int64} : (0 < XT.cmpL x y) = (y < x) := by
  have h1 := @Int64.lt_iff_toInt_lt x y
  have h2 := @Int64.lt_iff_toInt_lt y x
  have h3 : x = y ↔ x.toInt = y.toInt := Int64.toInt_inj.symm
  unfold XT.cmpL
  split
  · rw [show ((0 : Int32) < 1) = True by decide]; simp only [h1, h2, h3] at *; exact propext ⟨fun _ => by omega, fun _ => trivial⟩
  · split
    · rw [show ((0 : Int32) < 0) = False by decide]; simp only [h1, h2, h3] at *; exact propext ⟨False.elim, fun _ => by omega⟩
    · rw [show ((0 : Int32) < -1) = False by decide]; simp only [h1, h2, h3] at *; exact propext ⟨False.elim, fun _ => by omega⟩
theorem cmpL_eq {x y : Int64} : (XT.cmpL x y = 0) = (x = y) := by
  have h1 := @Int64.lt_iff_toInt_lt x y
  have h2 := @Int64.lt_iff_toInt_lt y x
  have h3 : x = y ↔ x.toInt = y.toInt := Int64.toInt_inj.symm
  unfold XT.cmpL
  split
  · rw [show ((1 : Int32) = 0) = False by decide]; simp only [h1, h2, h3] at *; exact propext ⟨False.elim, fun _ => by omega⟩
  · split
    · rename_i q; rw [show ((0 : Int32) = 0) = True by decide]; exact propext ⟨fun _ => q, fun _ => trivial⟩
    · rename_i q; rw [show ((-1 : Int32) = 0) = False by decide]; exact propext ⟨False.elim, fun z => absurd z q⟩
def fset (fs : List (String × String × Value)) (n : String) (v : Value) : List (String × String × Value) := match fs with
  | [] => []
  | (n', d', w) :: r => if n' = n then (n', d', v) :: fset r n v else (n', d', w) :: fset r n v
theorem fset_mem {fs : List (String × String × Value)} {n : String} {v : Value} {f : String × String × Value} (h : f ∈ fset fs n v) : (f.1 = n ∧ f.2.2 = v ∧ ∃ w, (f.1, f.2.1, w) ∈ fs) ∨ (f.1 ≠ n ∧ f ∈ fs) := by
  induction fs with
  | nil => cases h
  | cons x r ih =>
    obtain ⟨n', d', w⟩ := x
    unfold fset at h
    split at h
    · rename_i e
      rcases List.mem_cons.mp h with rfl | h
      · exact Or.inl ⟨e, rfl, w, List.mem_cons_self ..⟩
      · rcases ih h with ⟨q1, q2, w', q3⟩ | ⟨q1, q2⟩
        · exact Or.inl ⟨q1, q2, w', List.mem_cons_of_mem _ q3⟩
        · exact Or.inr ⟨q1, List.mem_cons_of_mem _ q2⟩
    · rename_i e
      rcases List.mem_cons.mp h with rfl | h
      · exact Or.inr ⟨e, List.mem_cons_self ..⟩
      · rcases ih h with ⟨q1, q2, w', q3⟩ | ⟨q1, q2⟩
        · exact Or.inl ⟨q1, q2, w', List.mem_cons_of_mem _ q3⟩
        · exact Or.inr ⟨q1, List.mem_cons_of_mem _ q2⟩
def fst (fs : List (String × String × Value)) (n : String) (v : Value) (f : List (String × String × Value) → Prop) : Prop := f (fset fs n v)
theorem fst_n {n : String} {v : Value} {f : List (String × String × Value) → Prop} : fst [] n v f = f [] := propext Iff.rfl
theorem fst_c {n n' d : String} {v w : Value} {r : List (String × String × Value)} {f : List (String × String × Value) → Prop} : fst ((n', d, w) :: r) n v f = if n' = n then fst r n v fun l => f ((n', d, v) :: l) else fst r n v fun l => f ((n', d, w) :: l) := by
  unfold fst
  rw [fset]
  split <;> rfl
theorem LaidAll.set {Z : State} {C n : String} {v : Value} {fs : List (String × String × Value)} (h : LaidAll Z C fs) : LaidAll Z C (fset fs n v) := by
  obtain ⟨a0, h⟩ := h
  have key : ∀ f ∈ fset fs n v, ∃ w, (f.1, f.2.1, w) ∈ fs := fun f hf => by
    rcases fset_mem hf with ⟨-, -, w, q⟩ | ⟨-, q⟩
    · exact ⟨w, q⟩
    · exact ⟨f.2.2, q⟩
  refine ⟨a0, fun f hf => ?_⟩
  obtain ⟨w, q⟩ := key f hf
  obtain ⟨h1, h2, h3⟩ := h _ q
  refine ⟨h1, h2, fun g hg e => ?_⟩
  obtain ⟨w', q'⟩ := key g hg
  exact h3 (g.1, g.2.1, w') q' e
section Objs
variable {code : ByteArray} {own nm : String} {maxL : Nat} {ret : Option FieldType} {R : Room} {W : List Jvm.Cond} {l : Launch} {Z : State} {b : Heap} {rc rs : Nat} {K : Option Value → List Cel → Prop}
variable {pc : Nat} {ls : List Slot} {st : List Value} {H : List Cel} {cN sN : Nat}
/-- what the sheet's words say of a class that is made: its fields at their first values -/
def NewOk (W : List Jvm.Cond) (own : String) (idx : Nat) (C : String) (n : Nat) (fs : List (String × String × Value)) : Prop :=
  Jvm.Cond.classLink own idx C ∈ W ∧ Jvm.Cond.instantiable C n ∈ W ∧ Jvm.Cond.initialized C ∈ W ∧ ∀ f ∈ fs, (Jvm.Cond.lays C C f.1 f.2.1 ∈ W ∨ Jvm.Cond.laysFinal C C f.1 f.2.1 ∈ W) ∧ (∃ ty, parseFieldDescriptor f.2.1 = some ty ∧ f.2.2 = defaultValue ty) ∧ ∀ f' ∈ fs, f'.1 = f.1 → f'.2.1 = f.2.1
theorem G.new {idx n : Nat} {C : String} {fs : List (String × String × Value)} (hN : NewOk W own idx C n fs)
    (hd : decode code pc = .ok (.new idx, 3)) (hc1 : cN + 1 ≤ R.cells) (hs1 : sN + n ≤ R.slots)
    (k : G code own nm maxL ret R W l Z b rc rs K (pc + 3) ls (.ref (ad b.size H.length) :: st) (H ++ [.inr (C, fs)]) (cN + 1) (sN + n)) : G code own nm maxL ret R W l Z b rc rs K pc ls st H cN sN := by
  obtain ⟨w1, w2, w3, hfs⟩ := hN
  refine G.move (fun p e s m args below meth c T locs a0 hx hc hm hn hZ ho hw X hF hR => ?_) k
  obtain ⟨vm', cC, kC, h1, h2, h3, h4, X', sp⟩ := X.newCold hx ho (mv hZ (hw _ w1)) (mv hZ (hw _ w2)) (mv hZ (hw _ w3)) (g := mkF m pc ls.toArray st) rfl (hb hc hd) hc1 hs1
  have ea : ad b.size H.length = T.heap.size := by rw [hR.1]; rfl
  rw [hZ.alike.findClass] at h1
  obtain ⟨kZ, z1, -⟩ := Vm.findClass_spec h1
  obtain ⟨k', z2, z3⟩ := hZ.alike.2.2 _ _ z1
  cases h2.symm.trans z2
  have ei : kC.instanceTypes = kZ.instanceTypes := by rw [z3]
  have hN : (T.heap.push { cls := cC, slots := kC.instanceTypes.map defaultValue, vm := .none })[T.heap.size]? = some { cls := cC, slots := kC.instanceTypes.map defaultValue, vm := .none } := by simp
  refine ⟨_, _, X', hF, hR.push (h' := T.heap.push { cls := cC, slots := kC.instanceTypes.map defaultValue, vm := .none }) ⟨by simp, fun a c h => ?_⟩ (by simp) ⟨⟨_, kZ, hN, h1, z1, rfl, fun _ => by simp [ei]⟩, fun f hf => ?_, a0, fun f hf => ?_⟩, by rw [ea]; exact sp⟩
  · rw [Array.getElem?_push_lt (Array.getElem?_eq_some_iff.mp h).1]; exact (Array.getElem?_eq_getElem _).symm.trans h
  · obtain ⟨L, ⟨ty, ht, hv⟩, -⟩ := hfs f hf
    obtain ⟨c1, k1, cf, kf, i, fl, a1, a2, a3, a4, a5, a6, -⟩ := Laid.spec (a0 := a0) (L.imp (hw _) (hw _))
    cases h1.symm.trans a1
    cases z1.symm.trans a2
    rw [hv]
    exact ⟨_, cf, kf, i, fl, hN, a3, a4, by simp, rfl, a5, by simp [ei, a6, (State.fieldFound?_type a3 ht).2]⟩
  · obtain ⟨L, ⟨ty, ht, hv⟩, u⟩ := hfs f hf
    exact ⟨L.imp (hw _) (hw _), ⟨ty, ht⟩, u⟩
/-- what the sheet's words say of a field that is written here -/
def PutOk (W : List Jvm.Cond) (own nm : String) (idx : Nat) (C n d : String) (ty : FieldType) : Prop :=
  Jvm.Cond.fieldLink own idx C n d ∈ W ∧ (Jvm.Cond.lays C C n d ∈ W ∨ (Jvm.Cond.laysFinal C C n d ∈ W ∧ own = C ∧ nm = "<init>")) ∧ (∃ kk, Jvm.Cond.instantiable C kk ∈ W) ∧ parseFieldDescriptor d = some ty
theorem G.putf {idx i : Nat} {C n d : String} {ty : FieldType} {v v' old : Value} {fs : List (String × String × Value)} {rest : List Value} (hP : PutOk W own nm idx C n d ty) (hn : narrow ty v = v') (hft : fits ty v' = true)
    (hd : decode code pc = .ok (.putfield idx, 3)) (hi : H[i]? = some (.inr (C, fs))) (hg : fget fs n d = some old)
    (k : G code own nm maxL ret R W l Z b rc rs K (pc + 3) ls rest (H.set i (.inr (C, fset fs n v'))) cN sN) : G code own nm maxL ret R W l Z b rc rs K pc ls (v :: .ref (ad b.size i) :: rest) H cN sN := by
  obtain ⟨w1, wl, ⟨kk, wi⟩, hty⟩ := hP
  refine G.move (fun p e s m args below meth c T locs a0 hx hc hm hnm hZ ho hw X hF hR => ?_) k
  obtain ⟨E, F, LA⟩ := hR.2 _ _ hi
  obtain ⟨T', h', X', e2, Wt, sp⟩ := putFN X hx hZ ho (hw _ w1) Via.refl rfl (F _ (fget_mem hg)) E (wl.imp (hw _) fun q => ⟨hw _ q.1, q.2.1, hnm.trans q.2.2⟩) (hw _ wi) hty hn hft (g := mkF m pc ls.toArray (v :: .ref (ad b.size i) :: rest)) rfl rfl (hb hc hd)
  refine ⟨T', _, X', hF.app (fun y hy => by cases List.mem_singleton.mp hy; exact Nat.le_add_right _ _), ?_, sp⟩
  rw [e2]
  refine hR.set Wt ⟨E.wr Wt, fun f hf => ?_, LA.set⟩
  obtain ⟨a1, hall⟩ := LA
  obtain ⟨L2, -, un⟩ := hall _ (fget_mem hg)
  rcases fset_mem hf with ⟨q1, q2, w, q3⟩ | ⟨q1, q2⟩
  · have qd : f.2.1 = d := un (f.1, f.2.1, w) q3 q1
    have := F _ q3
    rw [q1, q2, qd]
    simp only [q1, qd] at this
    exact this.same Wt
  · obtain ⟨L1, ⟨ty1, t1⟩, -⟩ := hall _ q2
    exact (F _ q2).other Wt (Or.inr (slot_ne (a0 := a1) (C := C) L1 L2 q1 t1 hty))
end Objs
section New
variable {p : Program} {l : Launch} {e : Env} {R : Room} {s : State} {m : MethodId} {args : Array Value} {below : List Frame} {meth : Method} {c : Code} {T : State} {locs : List Loc} {cells slots : Nat}
theorem retI (X : Stand p l e R s m args below meth c T locs cells slots) (hx : p.tables.exec = Jvm.exec) {pc : Nat} {Ls : Array Slot} {z : Int32} {rest : List Value} (hret : meth.sig.returnType = some .int) (hd : decode c.code pc = .ok (.ireturn, 1)) {fs : List Frame}
    (hl : ∀ (f : JFrame) (acts : List Action), f.method = m → f.locked = none → f.entered = [] → (doReturn e (T.setTop f) acts (some (.int z))).1 = T.setFrames fs) : Steps p.tables e below (T.setTop (mkF m pc Ls (.int z :: rest))) (T.setFrames fs) :=
  retOut X hx hret rfl (Or.inl ⟨rfl, Or.inl rfl, _, rfl⟩) hd hl
theorem newA_step {Z : State} {b : Heap} {a0 : Array Value} {H : List Cel} {t : ArrayType} {pc : Nat} {ls : List Slot} {n : Int32} {r : List Value} (X : Stand p l e R s m args below meth c T locs cells slots) (hx : p.tables.exec = Jvm.exec) (hZ : Z.Warmed39 s.vm) (w : (Jvm.Cond.arrayClass (newarray.typeOf t)).before a0 Z = true) (hF : Fr b.size locs) (hR : Rep Z b T.heap H)
    (hd : decode c.code pc = .ok (.newarray t, 2)) (hn : ¬ n < 0) (hcap : n.toNatClampNeg ≤ 65536) (hc : cells + 1 ≤ R.cells) (hs : slots + n.toNatClampNeg ≤ R.slots) :
    ∃ T' locs', Stand p l e R s m args below meth c T' locs' (cells + 1) (slots + n.toNatClampNeg) ∧ Fr b.size locs' ∧ Rep Z b T'.heap (H ++ [.inl (newarray.typeOf t, List.replicate n.toNatClampNeg (defaultValue (newarray.typeOf t)))]) ∧
      ∀ target, Steps p.tables e below (T'.setTop (mkF m (pc + 2) ls.toArray (.ref (ad b.size H.length) :: r))) target → Steps p.tables e below (T.setTop (mkF m pc ls.toArray (.int n :: r))) target := by
  have hcb : componentBytes (newarray.typeOf t) ≤ 8 := by cases t <;> decide
  obtain ⟨cA, kA, comp, h1, h2, h3, X', sp⟩ := X.newarrayPrim hx (mvA hZ w) (g := mkF m pc ls.toArray (.int n :: r)) rfl hd rfl hn (Nat.le_trans (Nat.mul_le_mul hcap hcb) (by decide)) hc hs
  rw [hZ.alike.findClass] at h1
  obtain ⟨kZ, z1, -⟩ := Vm.findClass_spec h1
  obtain ⟨k', z2, z3⟩ := hZ.alike.2.2 _ _ z1
  cases h2.symm.trans z2
  have ea : ad b.size H.length = T.heap.size := by rw [hR.1]; rfl
  refine ⟨_, _, X', hF, hR.push (h' := T.heap.push _) ⟨by simp, fun a c h => ?_⟩ (by simp) ⟨_, ⟨by simp; rfl, ⟨by simp, kZ, z1, comp, by rw [← h3, z3]⟩, by simp⟩, by simp⟩, by rw [ea]; exact sp⟩
  rw [Array.getElem?_push_lt (Array.getElem?_eq_some_iff.mp h).1]; exact (Array.getElem?_eq_getElem _).symm.trans h
end New
set_option maxHeartbeats 4000000 in
def W1 (CI : List (Nat × Int32)) (CL : List (Nat × Int64)) (FL : List (Nat × String × String × String)) (AL : List FieldType) (PL : List (Nat × String × String × String × FieldType)) (NL : List (Nat × String × Nat × List (String × String × Value))) (ret : Option FieldType) (R : Room) (n0 rc rs : Nat) (K : Option Value → List Cel → Prop) (g : Cont) (i : Instr) (pc : Nat) (ls : List Slot) (st : List Value) (H : List Cel) (cN sN : Nat) (k : Cont) : Prop := match i with
  | .iload_n j => ldI ls j.val fun v => k (pc + 1) ls (.int v :: st) H cN sN
  | .iload j => ldI ls j fun v => k (pc + 2) ls (.int v :: st) H cN sN
  | .lload_n j => ldJ ls j.val fun v => k (pc + 1) ls (.long v :: st) H cN sN
  | .lload j => ldJ ls j fun v => k (pc + 2) ls (.long v :: st) H cN sN
  | .aload_n j => ldA ls j.val fun v => k (pc + 1) ls (v :: st) H cN sN
  | .aload j => ldA ls j fun v => k (pc + 2) ls (v :: st) H cN sN
  | .istore_n j => popI st fun v r => sto1 ls j.val (.int v) fun l' => k (pc + 1) l' r H cN sN
  | .istore j => popI st fun v r => sto1 ls j (.int v) fun l' => k (pc + 2) l' r H cN sN
  | .lstore_n j => popJ st fun v r => sto2 ls j.val (.long v) fun l' => k (pc + 1) l' r H cN sN
  | .lstore j => popJ st fun v r => sto2 ls j (.long v) fun l' => k (pc + 2) l' r H cN sN
  | .astore_n j => popA st fun v r => sto1 ls j.val v fun l' => k (pc + 1) l' r H cN sN
  | .astore j => popA st fun v r => sto1 ls j v fun l' => k (pc + 2) l' r H cN sN
  | .iconst i => k (pc + 1) ls (.int (Int32.ofInt i) :: st) H cN sN
  | .lconst i => k (pc + 1) ls (.long (Int64.ofNat i) :: st) H cN sN
  | .bipush i => k (pc + 2) ls (.int (Int8.ofInt i).toInt32 :: st) H cN sN
  | .sipush i => k (pc + 3) ls (.int (Int16.ofInt i).toInt32 :: st) H cN sN
  | .aconst_null => k (pc + 1) ls (.null :: st) H cN sN
  | .ldc i => onSome (look CI i) fun v => k (pc + 2) ls (.int v :: st) H cN sN
  | .ldc2_w i => onSome (look CL i) fun v => k (pc + 3) ls (.long v :: st) H cN sN
  | .iadd => popI st fun y r => popI r fun x r => k (pc + 1) ls (.int (x + y) :: r) H cN sN
  | .isub => popI st fun y r => popI r fun x r => k (pc + 1) ls (.int (x - y) :: r) H cN sN
  | .imul => popI st fun y r => popI r fun x r => k (pc + 1) ls (.int (x * y) :: r) H cN sN
  | .iand => popI st fun y r => popI r fun x r => k (pc + 1) ls (.int (x &&& y) :: r) H cN sN
  | .ior => popI st fun y r => popI r fun x r => k (pc + 1) ls (.int (x ||| y) :: r) H cN sN
  | .ixor => popI st fun y r => popI r fun x r => k (pc + 1) ls (.int (x ^^^ y) :: r) H cN sN
  | .ishl => popI st fun y r => popI r fun x r => k (pc + 1) ls (.int (x <<< (y &&& 31)) :: r) H cN sN
  | .ishr => popI st fun y r => popI r fun x r => k (pc + 1) ls (.int (x >>> (y &&& 31)) :: r) H cN sN
  | .iushr => popI st fun y r => popI r fun x r => k (pc + 1) ls (.int (XT.ushr x y) :: r) H cN sN
  | .idiv => popI st fun y r => popI r fun x r => y ≠ 0 ∧ k (pc + 1) ls (.int (x / y) :: r) H cN sN
  | .irem => popI st fun y r => popI r fun x r => y ≠ 0 ∧ k (pc + 1) ls (.int (remI x y) :: r) H cN sN
  | .ladd => popJ st fun y r => popJ r fun x r => k (pc + 1) ls (.long (x + y) :: r) H cN sN
  | .lsub => popJ st fun y r => popJ r fun x r => k (pc + 1) ls (.long (x - y) :: r) H cN sN
  | .lmul => popJ st fun y r => popJ r fun x r => k (pc + 1) ls (.long (x * y) :: r) H cN sN
  | .land => popJ st fun y r => popJ r fun x r => k (pc + 1) ls (.long (x &&& y) :: r) H cN sN
  | .lor => popJ st fun y r => popJ r fun x r => k (pc + 1) ls (.long (x ||| y) :: r) H cN sN
  | .lxor => popJ st fun y r => popJ r fun x r => k (pc + 1) ls (.long (x ^^^ y) :: r) H cN sN
  | .ldiv => popJ st fun y r => popJ r fun x r => y ≠ 0 ∧ k (pc + 1) ls (.long (x / y) :: r) H cN sN
  | .lrem => popJ st fun y r => popJ r fun x r => y ≠ 0 ∧ k (pc + 1) ls (.long (remJ x y) :: r) H cN sN
  | .lshl => popI st fun y r => popJ r fun x r => k (pc + 1) ls (.long (x <<< (y.toInt64 &&& 63)) :: r) H cN sN
  | .lshr => popI st fun y r => popJ r fun x r => k (pc + 1) ls (.long (x >>> (y.toInt64 &&& 63)) :: r) H cN sN
  | .lushr => popI st fun y r => popJ r fun x r => k (pc + 1) ls (.long (XT.ushrL x y) :: r) H cN sN
  | .lcmp => popJ st fun y r => popJ r fun x r => k (pc + 1) ls (.int (XT.cmpL x y) :: r) H cN sN
  | .i2l => popI st fun x r => k (pc + 1) ls (.long (x.toInt64) :: r) H cN sN
  | .l2i => popJ st fun x r => k (pc + 1) ls (.int (x.toInt32) :: r) H cN sN
  | .i2b => popI st fun x r => k (pc + 1) ls (.int (nar .byte x) :: r) H cN sN
  | .i2c => popI st fun x r => k (pc + 1) ls (.int (nar .char x) :: r) H cN sN
  | .i2s => popI st fun x r => k (pc + 1) ls (.int (nar .short x) :: r) H cN sN
  | .ineg => popI st fun x r => k (pc + 1) ls (.int (-x) :: r) H cN sN
  | .dup => pop1 st fun x r => k (pc + 1) ls (x :: x :: r) H cN sN
  | .pop => pop1 st fun x r => k (pc + 1) ls r H cN sN
  | .dup_x1 => pop1 st fun x r => pop1 r fun y r => k (pc + 1) ls (x :: y :: x :: r) H cN sN
  | .iinc j i => ldI ls j fun v => setL ls j (.val (.int (v + Int32.ofInt i))) fun l' => k (pc + 3) l' st H cN sN
  | .goto o => tgt pc o fun t => k (t) ls st H cN sN
  | .ifCond .eq o => popI st fun x r => if x = 0 then (tgt pc o fun t => k (t) ls r H cN sN) else (k (pc + 3) ls r H cN sN)
  | .ifCond .ne o => popI st fun x r => if x = 0 then (k (pc + 3) ls r H cN sN) else (tgt pc o fun t => k (t) ls r H cN sN)
  | .ifCond .lt o => popI st fun x r => if x < 0 then (tgt pc o fun t => k (t) ls r H cN sN) else (k (pc + 3) ls r H cN sN)
  | .ifCond .ge o => popI st fun x r => if x < 0 then (k (pc + 3) ls r H cN sN) else (tgt pc o fun t => k (t) ls r H cN sN)
  | .ifCond .gt o => popI st fun x r => if 0 < x then (tgt pc o fun t => k (t) ls r H cN sN) else (k (pc + 3) ls r H cN sN)
  | .ifCond .le o => popI st fun x r => if 0 < x then (k (pc + 3) ls r H cN sN) else (tgt pc o fun t => k (t) ls r H cN sN)
  | .if_icmp .eq o => popI st fun y r => popI r fun x r => if x = y then (tgt pc o fun t => k (t) ls r H cN sN) else (k (pc + 3) ls r H cN sN)
  | .if_icmp .ne o => popI st fun y r => popI r fun x r => if x = y then (k (pc + 3) ls r H cN sN) else (tgt pc o fun t => k (t) ls r H cN sN)
  | .if_icmp .lt o => popI st fun y r => popI r fun x r => if x < y then (tgt pc o fun t => k (t) ls r H cN sN) else (k (pc + 3) ls r H cN sN)
  | .if_icmp .ge o => popI st fun y r => popI r fun x r => if x < y then (k (pc + 3) ls r H cN sN) else (tgt pc o fun t => k (t) ls r H cN sN)
  | .if_icmp .gt o => popI st fun y r => popI r fun x r => if y < x then (tgt pc o fun t => k (t) ls r H cN sN) else (k (pc + 3) ls r H cN sN)
  | .if_icmp .le o => popI st fun y r => popI r fun x r => if y < x then (k (pc + 3) ls r H cN sN) else (tgt pc o fun t => k (t) ls r H cN sN)
  | .ifnull o => match st with | .null :: r => tgt pc o fun t => k (t) ls r H cN sN | .ref _ :: r => k (pc + 3) ls r H cN sN | _ => False
  | .ifnonnull o => match st with | .null :: r => k (pc + 3) ls r H cN sN | .ref _ :: r => tgt pc o fun t => k (t) ls r H cN sN | _ => False
  | .arraylength => popR st fun a r => arr H n0 a fun i ty vs => k (pc + 1) ls (.int (Int32.ofNat vs.length) :: r) H cN sN
  | .baload => popI st fun j r => popR r fun a r => arr H n0 a fun i ty vs => if ty = .byte then idx vs j fun v => k (pc + 1) ls (v :: r) H cN sN else False
  | .caload => popI st fun j r => popR r fun a r => arr H n0 a fun i ty vs => if ty = .char then idx vs j fun v => k (pc + 1) ls (v :: r) H cN sN else False
  | .iaload => popI st fun j r => popR r fun a r => arr H n0 a fun i ty vs => if ty = .int then idx vs j fun v => k (pc + 1) ls (v :: r) H cN sN else False
  | .laload => popI st fun j r => popR r fun a r => arr H n0 a fun i ty vs => if ty = .long then idx vs j fun v => k (pc + 1) ls (v :: r) H cN sN else False
  | .bastore => popI st fun x r => popI r fun j r => popR r fun a r => arr H n0 a fun i ty vs => if ty = .byte then idx vs j fun _ => setN vs j.toNatClampNeg (.int (nar .byte x)) fun vs' => setH H i (.inl (.byte, vs')) fun H' => k (pc + 1) ls r H' cN sN else False
  | .castore => popI st fun x r => popI r fun j r => popR r fun a r => arr H n0 a fun i ty vs => if ty = .char then idx vs j fun _ => setN vs j.toNatClampNeg (.int (nar .char x)) fun vs' => setH H i (.inl (.char, vs')) fun H' => k (pc + 1) ls r H' cN sN else False
  | .iastore => popI st fun x r => popI r fun j r => popR r fun a r => arr H n0 a fun i ty vs => if ty = .int then idx vs j fun _ => setN vs j.toNatClampNeg (.int x) fun vs' => setH H i (.inl (.int, vs')) fun H' => k (pc + 1) ls r H' cN sN else False
  | .lastore => popJ st fun x r => popI r fun j r => popR r fun a r => arr H n0 a fun i ty vs => if ty = .long then idx vs j fun _ => setN vs j.toNatClampNeg (.long x) fun vs' => setH H i (.inl (.long, vs')) fun H' => k (pc + 1) ls r H' cN sN else False
  | .newarray t => popI st fun n r => if ¬ n < 0 ∧ newarray.typeOf t ∈ AL ∧ n.toNatClampNeg ≤ 65536 ∧ cN + 1 ≤ R.cells ∧ sN + n.toNatClampNeg ≤ R.slots then onLen H fun i => repN n.toNatClampNeg (defaultValue (newarray.typeOf t)) fun vs => snoc H (.inl (newarray.typeOf t, vs)) fun H' => k (pc + 2) ls (.ref (ad n0 i) :: r) H' (cN + 1) (sN + n.toNatClampNeg) else False
  | .ireturn => popI st fun x r => if cN ≤ rc ∧ sN ≤ rs then (match ret with | some .int => K (some (.int x)) H | some .boolean => K (some (.int (nar .boolean x))) H | some .byte => K (some (.int (nar .byte x))) H | some .char => K (some (.int (nar .char x))) H | some .short => K (some (.int (nar .short x))) H | _ => False) else False
  | .lreturn => popJ st fun x r => if cN ≤ rc ∧ sN ≤ rs ∧ r = [] ∧ ret = some .long then K (some (.long x)) H else False
  | .areturn => popR st fun x r => if cN ≤ rc ∧ sN ≤ rs ∧ ret = some (.array .byte) then K (some (.ref x)) H else False
  | .return_ => if cN ≤ rc ∧ sN ≤ rs ∧ ret = none ∧ st = [] then K none H else False
  | .getfield j => popR st fun a r => onSome (look FL j) fun q => obj H n0 a fun i C fs => if C = q.1 then fgt fs q.2.1 q.2.2 fun v => k (pc + 3) ls (v :: r) H cN sN else False
  | .new j => onSome (look NL j) fun q => if cN + 1 ≤ R.cells ∧ sN + q.2.1 ≤ R.slots then onLen H fun i => snoc H (.inr (q.1, q.2.2)) fun H' => k (pc + 3) ls (.ref (ad n0 i) :: st) H' (cN + 1) (sN + q.2.1) else False
  | .putfield j => onSome (look PL j) fun q => match q.2.2.2 with | .long => popJ st fun x r => popR r fun a r => obj H n0 a fun i C fs => if C = q.1 then fgt fs q.2.1 q.2.2.1 fun _ => fst fs q.2.1 (.long x) fun fs' => setH H i (.inr (C, fs')) fun H' => k (pc + 3) ls r H' cN sN else False | .int => popI st fun x r => popR r fun a r => obj H n0 a fun i C fs => if C = q.1 then fgt fs q.2.1 q.2.2.1 fun _ => fst fs q.2.1 (.int x) fun fs' => setH H i (.inr (C, fs')) fun H' => k (pc + 3) ls r H' cN sN else False | .boolean => popI st fun x r => popR r fun a r => obj H n0 a fun i C fs => if C = q.1 then fgt fs q.2.1 q.2.2.1 fun _ => fst fs q.2.1 (.int (nar .boolean x)) fun fs' => setH H i (.inr (C, fs')) fun H' => k (pc + 3) ls r H' cN sN else False | .object _ => popA st fun x r => popR r fun a r => obj H n0 a fun i C fs => if C = q.1 then fgt fs q.2.1 q.2.2.1 fun _ => fst fs q.2.1 (x) fun fs' => setH H i (.inr (C, fs')) fun H' => k (pc + 3) ls r H' cN sN else False | .array _ => popA st fun x r => popR r fun a r => obj H n0 a fun i C fs => if C = q.1 then fgt fs q.2.1 q.2.2.1 fun _ => fst fs q.2.1 (x) fun fs' => setH H i (.inr (C, fs')) fun H' => k (pc + 3) ls r H' cN sN else False | _ => False
  | _ => g pc ls st H cN sN
/-- n steps from here -/
def Wn (S : List Nat) (code : ByteArray) (CI : List (Nat × Int32)) (CL : List (Nat × Int64)) (FL : List (Nat × String × String × String)) (AL : List FieldType) (PL : List (Nat × String × String × String × FieldType)) (NL : List (Nat × String × Nat × List (String × String × Value))) (ret : Option FieldType) (R : Room) (n0 rc rs : Nat) (K : Option Value → List Cel → Prop) (g : Cont) : Nat → Cont
  | 0 => g
  | n + 1 => fun pc ls st H cN sN => if pc ∈ S then g pc ls st H cN sN else onSome (at1 code pc) fun i => W1 CI CL FL AL PL NL ret R n0 rc rs K g i pc ls st H cN sN (Wn S code CI CL FL AL PL NL ret R n0 rc rs K g n)

section Sound
variable {code : ByteArray} {own nm : String} {maxL : Nat} {ret : Option FieldType} {R : Room} {W : List Jvm.Cond} {l : Launch} {Z : State} {b : Heap} {rc rs : Nat} {K : Option Value → List Cel → Prop}
variable {CI : List (Nat × Int32)} {CL : List (Nat × Int64)} {FL : List (Nat × String × String × String)} {AL : List FieldType} {PL : List (Nat × String × String × String × FieldType)} {NL : List (Nat × String × Nat × List (String × String × Value))}
set_option maxHeartbeats 40000000 in
theorem W1_sound (hCI : ∀ x ∈ CI, Jvm.Cond.constant own x.1 x.2 ∈ W) (hCL : ∀ x ∈ CL, Jvm.Cond.constantLong own x.1 x.2 ∈ W) (hFL : ∀ x ∈ FL, Jvm.Cond.fieldLink own x.1 x.2.1 x.2.2.1 x.2.2.2 ∈ W) (hAL : ∀ x ∈ AL, Jvm.Cond.arrayClass x ∈ W) (hPL : ∀ x ∈ PL, PutOk W own nm x.1 x.2.1 x.2.2.1 x.2.2.2.1 x.2.2.2.2) (hNL : ∀ x ∈ NL, NewOk W own x.1 x.2.1 x.2.2.1 x.2.2.2) {i : Instr} {pc : Nat} {ls : List Slot} {st : List Value} {H : List Cel} {cN sN : Nat} {k : Cont}
    (hd0 : decode code pc = .ok (i, ilen i)) (hoff : 0 ≤ (pc : Int) + off i) (hk : ∀ pc ls st H cN sN, k pc ls st H cN sN → G code own nm maxL ret R W l Z b rc rs K pc ls st H cN sN)
    (h : W1 CI CL FL AL PL NL ret R b.size rc rs K (G code own nm maxL ret R W l Z b rc rs K) i pc ls st H cN sN k) : G code own nm maxL ret R W l Z b rc rs K pc ls st H cN sN := by
  unfold W1 at h
  split at h
  · have hd := hd0; simp only [ilen] at hd; have hh := ldI_e h; clear h; obtain ⟨v, q, h⟩ := hh; exact G.pure (fun p e s m args below meth c T locs a0 hx hc hZ ho hw X hR tg hs => XS.iloadN X.here hx rfl (hb hc hd) (by simpa using q) hs) (hk _ _ _ _ _ _ h)
  · have hd := hd0; simp only [ilen] at hd; have hh := ldI_e h; clear h; obtain ⟨v, q, h⟩ := hh; exact G.pure (fun p e s m args below meth c T locs a0 hx hc hZ ho hw X hR tg hs => XS.iload X.here hx rfl (hb hc hd) (by simpa using q) hs) (hk _ _ _ _ _ _ h)
  · have hd := hd0; simp only [ilen] at hd; have hh := ldJ_e h; clear h; obtain ⟨v, q, h⟩ := hh; exact G.pure (fun p e s m args below meth c T locs a0 hx hc hZ ho hw X hR tg hs => XT.lloadN X.here hx rfl (hb hc hd) (by simpa using q) hs) (hk _ _ _ _ _ _ h)
  · have hd := hd0; simp only [ilen] at hd; have hh := ldJ_e h; clear h; obtain ⟨v, q, h⟩ := hh; exact G.pure (fun p e s m args below meth c T locs a0 hx hc hZ ho hw X hR tg hs => XT.lload X.here hx rfl (hb hc hd) (by simpa using q) hs) (hk _ _ _ _ _ _ h)
  · have hd := hd0; simp only [ilen] at hd; have hh := ldA_e h; clear h; obtain ⟨v, q, hv, h⟩ := hh; exact G.pure (fun p e s m args below meth c T locs a0 hx hc hZ ho hw X hR tg hs => XS.aloadN X.here hx rfl (hb hc hd) (by simpa using q) hv hs) (hk _ _ _ _ _ _ h)
  · have hd := hd0; simp only [ilen] at hd; have hh := ldA_e h; clear h; obtain ⟨v, q, hv, h⟩ := hh; exact G.pure (fun p e s m args below meth c T locs a0 hx hc hZ ho hw X hR tg hs => XS.aload X.here hx rfl (hb hc hd) (by simpa using q) hv hs) (hk _ _ _ _ _ _ h)
  · have hd := hd0; simp only [ilen] at hd; have hh := popI_e h; clear h; obtain ⟨v, r, rfl, h⟩ := hh; have hh := sto1_e rfl h; clear h; obtain ⟨l', q, h⟩ := hh; exact G.pure (fun p e s m args below meth c T locs a0 hx hc hZ ho hw X hR tg hs => XS.istoreN X.here hx rfl (hb hc hd) rfl q hs) (hk _ _ _ _ _ _ h)
  · have hd := hd0; simp only [ilen] at hd; have hh := popI_e h; clear h; obtain ⟨v, r, rfl, h⟩ := hh; have hh := sto1_e rfl h; clear h; obtain ⟨l', q, h⟩ := hh; exact G.pure (fun p e s m args below meth c T locs a0 hx hc hZ ho hw X hR tg hs => XS.istore X.here hx rfl (hb hc hd) rfl q hs) (hk _ _ _ _ _ _ h)
  · have hd := hd0; simp only [ilen] at hd; have hh := popJ_e h; clear h; obtain ⟨v, r, rfl, h⟩ := hh; have hh := sto2_e rfl h; clear h; obtain ⟨l', q, h⟩ := hh; exact G.pure (fun p e s m args below meth c T locs a0 hx hc hZ ho hw X hR tg hs => XT.lstoreN X.here hx rfl (hb hc hd) rfl q hs) (hk _ _ _ _ _ _ h)
  · have hd := hd0; simp only [ilen] at hd; have hh := popJ_e h; clear h; obtain ⟨v, r, rfl, h⟩ := hh; have hh := sto2_e rfl h; clear h; obtain ⟨l', q, h⟩ := hh; exact G.pure (fun p e s m args below meth c T locs a0 hx hc hZ ho hw X hR tg hs => XT.lstore X.here hx rfl (hb hc hd) rfl q hs) (hk _ _ _ _ _ _ h)
  · have hd := hd0; simp only [ilen] at hd; have hh := popA_e h; clear h; obtain ⟨v, r, rfl, hv, hv1, h⟩ := hh; have hh := sto1_e hv1 h; clear h; obtain ⟨l', q, h⟩ := hh; exact G.pure (fun p e s m args below meth c T locs a0 hx hc hZ ho hw X hR tg hs => XS.astoreN X.here hx rfl (hb hc hd) rfl hv q hs) (hk _ _ _ _ _ _ h)
  · have hd := hd0; simp only [ilen] at hd; have hh := popA_e h; clear h; obtain ⟨v, r, rfl, hv, hv1, h⟩ := hh; have hh := sto1_e hv1 h; clear h; obtain ⟨l', q, h⟩ := hh; exact G.pure (fun p e s m args below meth c T locs a0 hx hc hZ ho hw X hR tg hs => XS.astore X.here hx rfl (hb hc hd) rfl hv q hs) (hk _ _ _ _ _ _ h)
  · have hd := hd0; simp only [ilen] at hd; exact G.pure (fun p e s m args below meth c T locs a0 hx hc hZ ho hw X hR tg hs => XS.iconst X.here hx rfl (hb hc hd) hs) (hk _ _ _ _ _ _ h)
  · have hd := hd0; simp only [ilen] at hd; exact G.pure (fun p e s m args below meth c T locs a0 hx hc hZ ho hw X hR tg hs => XT.lconst X.here hx rfl (hb hc hd) hs) (hk _ _ _ _ _ _ h)
  · have hd := hd0; simp only [ilen] at hd; exact G.pure (fun p e s m args below meth c T locs a0 hx hc hZ ho hw X hR tg hs => XS.bipush X.here hx rfl (hb hc hd) hs) (hk _ _ _ _ _ _ h)
  · have hd := hd0; simp only [ilen] at hd; exact G.pure (fun p e s m args below meth c T locs a0 hx hc hZ ho hw X hR tg hs => XS.sipush X.here hx rfl (hb hc hd) hs) (hk _ _ _ _ _ _ h)
  · have hd := hd0; simp only [ilen] at hd; exact G.pure (fun p e s m args below meth c T locs a0 hx hc hZ ho hw X hR tg hs => XS.aconstNull X.here hx rfl (hb hc hd) hs) (hk _ _ _ _ _ _ h)
  · have hd := hd0; simp only [ilen] at hd; have hh := onSome_e h; clear h; obtain ⟨v, q, h⟩ := hh; exact G.pure (fun p e s m args below meth c T locs a0 hx hc hZ ho hw X hR tg hs => X.ldcInt hx ho (mvT hZ (hw _ (hCI _ (look_mem q)))) (g := mkF m pc ls.toArray st) rfl (hb hc hd) _ hs) (hk _ _ _ _ _ _ h)
  · have hd := hd0; simp only [ilen] at hd; have hh := onSome_e h; clear h; obtain ⟨v, q, h⟩ := hh; exact G.pure (fun p e s m args below meth c T locs a0 hx hc hZ ho hw X hR tg hs => X.ldc2Long hx ho (mvT hZ (hw _ (hCL _ (look_mem q)))) (g := mkF m pc ls.toArray st) rfl (hb hc hd) _ hs) (hk _ _ _ _ _ _ h)
  · have hd := hd0; simp only [ilen] at hd; have hh := popI_e h; clear h; obtain ⟨y, r, rfl, h⟩ := hh; have hh := popI_e h; clear h; obtain ⟨x, r, rfl, h⟩ := hh; exact G.pure (fun p e s m args below meth c T locs a0 hx hc hZ ho hw X hR tg hs => XS.iadd X.here hx rfl (hb hc hd) rfl hs) (hk _ _ _ _ _ _ h)
  · have hd := hd0; simp only [ilen] at hd; have hh := popI_e h; clear h; obtain ⟨y, r, rfl, h⟩ := hh; have hh := popI_e h; clear h; obtain ⟨x, r, rfl, h⟩ := hh; exact G.pure (fun p e s m args below meth c T locs a0 hx hc hZ ho hw X hR tg hs => XS.isub X.here hx rfl (hb hc hd) rfl hs) (hk _ _ _ _ _ _ h)
  · have hd := hd0; simp only [ilen] at hd; have hh := popI_e h; clear h; obtain ⟨y, r, rfl, h⟩ := hh; have hh := popI_e h; clear h; obtain ⟨x, r, rfl, h⟩ := hh; exact G.pure (fun p e s m args below meth c T locs a0 hx hc hZ ho hw X hR tg hs => XS.imul X.here hx rfl (hb hc hd) rfl hs) (hk _ _ _ _ _ _ h)
  · have hd := hd0; simp only [ilen] at hd; have hh := popI_e h; clear h; obtain ⟨y, r, rfl, h⟩ := hh; have hh := popI_e h; clear h; obtain ⟨x, r, rfl, h⟩ := hh; exact G.pure (fun p e s m args below meth c T locs a0 hx hc hZ ho hw X hR tg hs => XS.iand X.here hx rfl (hb hc hd) rfl hs) (hk _ _ _ _ _ _ h)
  · have hd := hd0; simp only [ilen] at hd; have hh := popI_e h; clear h; obtain ⟨y, r, rfl, h⟩ := hh; have hh := popI_e h; clear h; obtain ⟨x, r, rfl, h⟩ := hh; exact G.pure (fun p e s m args below meth c T locs a0 hx hc hZ ho hw X hR tg hs => XT.ior X.here hx rfl (hb hc hd) rfl hs) (hk _ _ _ _ _ _ h)
  · have hd := hd0; simp only [ilen] at hd; have hh := popI_e h; clear h; obtain ⟨y, r, rfl, h⟩ := hh; have hh := popI_e h; clear h; obtain ⟨x, r, rfl, h⟩ := hh; exact G.pure (fun p e s m args below meth c T locs a0 hx hc hZ ho hw X hR tg hs => XT.ixor X.here hx rfl (hb hc hd) rfl hs) (hk _ _ _ _ _ _ h)
  · have hd := hd0; simp only [ilen] at hd; have hh := popI_e h; clear h; obtain ⟨y, r, rfl, h⟩ := hh; have hh := popI_e h; clear h; obtain ⟨x, r, rfl, h⟩ := hh; exact G.pure (fun p e s m args below meth c T locs a0 hx hc hZ ho hw X hR tg hs => XT.ishl X.here hx rfl (hb hc hd) rfl hs) (hk _ _ _ _ _ _ h)
  · have hd := hd0; simp only [ilen] at hd; have hh := popI_e h; clear h; obtain ⟨y, r, rfl, h⟩ := hh; have hh := popI_e h; clear h; obtain ⟨x, r, rfl, h⟩ := hh; exact G.pure (fun p e s m args below meth c T locs a0 hx hc hZ ho hw X hR tg hs => XT.ishr X.here hx rfl (hb hc hd) rfl hs) (hk _ _ _ _ _ _ h)
  · have hd := hd0; simp only [ilen] at hd; have hh := popI_e h; clear h; obtain ⟨y, r, rfl, h⟩ := hh; have hh := popI_e h; clear h; obtain ⟨x, r, rfl, h⟩ := hh; exact G.pure (fun p e s m args below meth c T locs a0 hx hc hZ ho hw X hR tg hs => XT.iushr X.here hx rfl (hb hc hd) rfl hs) (hk _ _ _ _ _ _ h)
  · have hd := hd0; simp only [ilen] at hd; have hh := popI_e h; clear h; obtain ⟨y, r, rfl, h⟩ := hh; have hh := popI_e h; clear h; obtain ⟨x, r, rfl, h⟩ := hh; obtain ⟨hy, h⟩ := h; exact G.pure (fun p e s m args below meth c T locs a0 hx hc hZ ho hw X hR tg hs => XS.idiv X.here hx rfl (hb hc hd) rfl hy hs) (hk _ _ _ _ _ _ h)
  · have hd := hd0; simp only [ilen] at hd; have hh := popI_e h; clear h; obtain ⟨y, r, rfl, h⟩ := hh; have hh := popI_e h; clear h; obtain ⟨x, r, rfl, h⟩ := hh; obtain ⟨hy, h⟩ := h; exact G.pure (fun p e s m args below meth c T locs a0 hx hc hZ ho hw X hR tg hs => XS.irem X.here hx rfl (hb hc hd) rfl hy hs) (hk _ _ _ _ _ _ h)
  · have hd := hd0; simp only [ilen] at hd; have hh := popJ_e h; clear h; obtain ⟨y, r, rfl, h⟩ := hh; have hh := popJ_e h; clear h; obtain ⟨x, r, rfl, h⟩ := hh; exact G.pure (fun p e s m args below meth c T locs a0 hx hc hZ ho hw X hR tg hs => XT.ladd X.here hx rfl (hb hc hd) rfl hs) (hk _ _ _ _ _ _ h)
  · have hd := hd0; simp only [ilen] at hd; have hh := popJ_e h; clear h; obtain ⟨y, r, rfl, h⟩ := hh; have hh := popJ_e h; clear h; obtain ⟨x, r, rfl, h⟩ := hh; exact G.pure (fun p e s m args below meth c T locs a0 hx hc hZ ho hw X hR tg hs => XT.lsub X.here hx rfl (hb hc hd) rfl hs) (hk _ _ _ _ _ _ h)
  · have hd := hd0; simp only [ilen] at hd; have hh := popJ_e h; clear h; obtain ⟨y, r, rfl, h⟩ := hh; have hh := popJ_e h; clear h; obtain ⟨x, r, rfl, h⟩ := hh; exact G.pure (fun p e s m args below meth c T locs a0 hx hc hZ ho hw X hR tg hs => XT.lmul X.here hx rfl (hb hc hd) rfl hs) (hk _ _ _ _ _ _ h)
  · have hd := hd0; simp only [ilen] at hd; have hh := popJ_e h; clear h; obtain ⟨y, r, rfl, h⟩ := hh; have hh := popJ_e h; clear h; obtain ⟨x, r, rfl, h⟩ := hh; exact G.pure (fun p e s m args below meth c T locs a0 hx hc hZ ho hw X hR tg hs => XT.land X.here hx rfl (hb hc hd) rfl hs) (hk _ _ _ _ _ _ h)
  · have hd := hd0; simp only [ilen] at hd; have hh := popJ_e h; clear h; obtain ⟨y, r, rfl, h⟩ := hh; have hh := popJ_e h; clear h; obtain ⟨x, r, rfl, h⟩ := hh; exact G.pure (fun p e s m args below meth c T locs a0 hx hc hZ ho hw X hR tg hs => XT.lor X.here hx rfl (hb hc hd) rfl hs) (hk _ _ _ _ _ _ h)
  · have hd := hd0; simp only [ilen] at hd; have hh := popJ_e h; clear h; obtain ⟨y, r, rfl, h⟩ := hh; have hh := popJ_e h; clear h; obtain ⟨x, r, rfl, h⟩ := hh; exact G.pure (fun p e s m args below meth c T locs a0 hx hc hZ ho hw X hR tg hs => XT.lxor X.here hx rfl (hb hc hd) rfl hs) (hk _ _ _ _ _ _ h)
  · have hd := hd0; simp only [ilen] at hd; have hh := popJ_e h; clear h; obtain ⟨y, r, rfl, h⟩ := hh; have hh := popJ_e h; clear h; obtain ⟨x, r, rfl, h⟩ := hh; obtain ⟨hy, h⟩ := h; exact G.pure (fun p e s m args below meth c T locs a0 hx hc hZ ho hw X hR tg hs => XT.ldiv X.here hx rfl (hb hc hd) rfl hy hs) (hk _ _ _ _ _ _ h)
  · have hd := hd0; simp only [ilen] at hd; have hh := popJ_e h; clear h; obtain ⟨y, r, rfl, h⟩ := hh; have hh := popJ_e h; clear h; obtain ⟨x, r, rfl, h⟩ := hh; obtain ⟨hy, h⟩ := h; exact G.pure (fun p e s m args below meth c T locs a0 hx hc hZ ho hw X hR tg hs => XT.lrem X.here hx rfl (hb hc hd) rfl hy hs) (hk _ _ _ _ _ _ h)
  · have hd := hd0; simp only [ilen] at hd; have hh := popI_e h; clear h; obtain ⟨y, r, rfl, h⟩ := hh; have hh := popJ_e h; clear h; obtain ⟨x, r, rfl, h⟩ := hh; exact G.pure (fun p e s m args below meth c T locs a0 hx hc hZ ho hw X hR tg hs => XT.lshl X.here hx rfl (hb hc hd) rfl hs) (hk _ _ _ _ _ _ h)
  · have hd := hd0; simp only [ilen] at hd; have hh := popI_e h; clear h; obtain ⟨y, r, rfl, h⟩ := hh; have hh := popJ_e h; clear h; obtain ⟨x, r, rfl, h⟩ := hh; exact G.pure (fun p e s m args below meth c T locs a0 hx hc hZ ho hw X hR tg hs => XT.lshr X.here hx rfl (hb hc hd) rfl hs) (hk _ _ _ _ _ _ h)
  · have hd := hd0; simp only [ilen] at hd; have hh := popI_e h; clear h; obtain ⟨y, r, rfl, h⟩ := hh; have hh := popJ_e h; clear h; obtain ⟨x, r, rfl, h⟩ := hh; exact G.pure (fun p e s m args below meth c T locs a0 hx hc hZ ho hw X hR tg hs => XT.lushr X.here hx rfl (hb hc hd) rfl hs) (hk _ _ _ _ _ _ h)
  · have hd := hd0; simp only [ilen] at hd; have hh := popJ_e h; clear h; obtain ⟨y, r, rfl, h⟩ := hh; have hh := popJ_e h; clear h; obtain ⟨x, r, rfl, h⟩ := hh; exact G.pure (fun p e s m args below meth c T locs a0 hx hc hZ ho hw X hR tg hs => XT.lcmp X.here hx rfl (hb hc hd) rfl hs) (hk _ _ _ _ _ _ h)
  · have hd := hd0; simp only [ilen] at hd; have hh := popI_e h; clear h; obtain ⟨x, r, rfl, h⟩ := hh; exact G.pure (fun p e s m args below meth c T locs a0 hx hc hZ ho hw X hR tg hs => XT.i2l X.here hx rfl (hb hc hd) rfl hs) (hk _ _ _ _ _ _ h)
  · have hd := hd0; simp only [ilen] at hd; have hh := popJ_e h; clear h; obtain ⟨x, r, rfl, h⟩ := hh; exact G.pure (fun p e s m args below meth c T locs a0 hx hc hZ ho hw X hR tg hs => XT.l2i X.here hx rfl (hb hc hd) rfl hs) (hk _ _ _ _ _ _ h)
  · have hd := hd0; simp only [ilen] at hd; have hh := popI_e h; clear h; obtain ⟨x, r, rfl, h⟩ := hh; exact G.pure (fun p e s m args below meth c T locs a0 hx hc hZ ho hw X hR tg hs => XT.i2b X.here hx rfl (hb hc hd) rfl hs) (hk _ _ _ _ _ _ h)
  · have hd := hd0; simp only [ilen] at hd; have hh := popI_e h; clear h; obtain ⟨x, r, rfl, h⟩ := hh; exact G.pure (fun p e s m args below meth c T locs a0 hx hc hZ ho hw X hR tg hs => XT.i2c X.here hx rfl (hb hc hd) rfl hs) (hk _ _ _ _ _ _ h)
  · have hd := hd0; simp only [ilen] at hd; have hh := popI_e h; clear h; obtain ⟨x, r, rfl, h⟩ := hh; exact G.pure (fun p e s m args below meth c T locs a0 hx hc hZ ho hw X hR tg hs => XT.i2s X.here hx rfl (hb hc hd) rfl hs) (hk _ _ _ _ _ _ h)
  · have hd := hd0; simp only [ilen] at hd; have hh := popI_e h; clear h; obtain ⟨x, r, rfl, h⟩ := hh; exact G.pure (fun p e s m args below meth c T locs a0 hx hc hZ ho hw X hR tg hs => XS.ineg X.here hx rfl (hb hc hd) rfl hs) (hk _ _ _ _ _ _ h)
  · have hd := hd0; simp only [ilen] at hd; have hh := pop1_e h; clear h; obtain ⟨x, r, rfl, hx1, h⟩ := hh; exact G.pure (fun p e s m args below meth c T locs a0 hx hc hZ ho hw X hR tg hs => XS.dup X.here hx rfl (hb hc hd) rfl hx1 hs) (hk _ _ _ _ _ _ h)
  · have hd := hd0; simp only [ilen] at hd; have hh := pop1_e h; clear h; obtain ⟨x, r, rfl, hx1, h⟩ := hh; exact G.pure (fun p e s m args below meth c T locs a0 hx hc hZ ho hw X hR tg hs => XT.pop X.here hx rfl (hb hc hd) rfl hx1 hs) (hk _ _ _ _ _ _ h)
  · have hd := hd0; simp only [ilen] at hd; have hh := pop1_e h; clear h; obtain ⟨x, r, rfl, hx1, h⟩ := hh; have hh := pop1_e h; clear h; obtain ⟨y, r, rfl, hy1, h⟩ := hh; exact G.pure (fun p e s m args below meth c T locs a0 hx hc hZ ho hw X hR tg hs => XT.dupX1 X.here hx rfl (hb hc hd) rfl hx1 hy1 hs) (hk _ _ _ _ _ _ h)
  · have hd := hd0; simp only [ilen] at hd; have hh := ldI_e h; clear h; obtain ⟨v, q, h⟩ := hh; exact G.pure (fun p e s m args below meth c T locs a0 hx hc hZ ho hw X hR tg hs => XS.iinc X.here hx rfl (hb hc hd) (by simpa using q) (XS.store1 (by simpa using q) (Or.inr ⟨_, rfl, rfl⟩) rfl) (by simpa using hs)) (hk _ _ _ _ _ _ h)
  · have hd := hd0; simp only [ilen] at hd; have h1 := hoff; simp only [off] at h1; exact G.pure (fun p e s m args below meth c T locs a0 hx hc hZ ho hw X hR tg hs => XS.goto X.here hx rfl rfl (hb hc hd) h1 rfl hs) (hk _ _ _ _ _ _ h)
  · have hd := hd0; simp only [ilen] at hd; have hh := popI_e h; clear h; obtain ⟨x, r, rfl, h⟩ := hh; (try dsimp only at h); split at h <;> rename_i q <;> first | (have h1 := hoff; simp only [off] at h1; exact G.pure (fun p e s m args below meth c T locs a0 hx hc hZ ho hw X hR tg hs => XS.ifYes X.here hx rfl rfl (hb hc hd) rfl (XT.i0_eq_t q) h1 rfl hs) (hk _ _ _ _ _ _ h)) | (exact G.pure (fun p e s m args below meth c T locs a0 hx hc hZ ho hw X hR tg hs => XS.ifNo X.here hx rfl (hb hc hd) rfl (XT.i0_eq_f q) hs) (hk _ _ _ _ _ _ h))
  · have hd := hd0; simp only [ilen] at hd; have hh := popI_e h; clear h; obtain ⟨x, r, rfl, h⟩ := hh; (try dsimp only at h); split at h <;> rename_i q <;> first | (have h1 := hoff; simp only [off] at h1; exact G.pure (fun p e s m args below meth c T locs a0 hx hc hZ ho hw X hR tg hs => XS.ifYes X.here hx rfl rfl (hb hc hd) rfl (XT.i0_ne_t q) h1 rfl hs) (hk _ _ _ _ _ _ h)) | (exact G.pure (fun p e s m args below meth c T locs a0 hx hc hZ ho hw X hR tg hs => XS.ifNo X.here hx rfl (hb hc hd) rfl (XT.i0_ne_f q) hs) (hk _ _ _ _ _ _ h))
  · have hd := hd0; simp only [ilen] at hd; have hh := popI_e h; clear h; obtain ⟨x, r, rfl, h⟩ := hh; (try dsimp only at h); split at h <;> rename_i q <;> first | (have h1 := hoff; simp only [off] at h1; exact G.pure (fun p e s m args below meth c T locs a0 hx hc hZ ho hw X hR tg hs => XS.ifYes X.here hx rfl rfl (hb hc hd) rfl (XT.i0_lt_t q) h1 rfl hs) (hk _ _ _ _ _ _ h)) | (exact G.pure (fun p e s m args below meth c T locs a0 hx hc hZ ho hw X hR tg hs => XS.ifNo X.here hx rfl (hb hc hd) rfl (XT.i0_lt_f q) hs) (hk _ _ _ _ _ _ h))
  · have hd := hd0; simp only [ilen] at hd; have hh := popI_e h; clear h; obtain ⟨x, r, rfl, h⟩ := hh; (try dsimp only at h); split at h <;> rename_i q <;> first | (have h1 := hoff; simp only [off] at h1; exact G.pure (fun p e s m args below meth c T locs a0 hx hc hZ ho hw X hR tg hs => XS.ifYes X.here hx rfl rfl (hb hc hd) rfl (XT.i0_ge_t q) h1 rfl hs) (hk _ _ _ _ _ _ h)) | (exact G.pure (fun p e s m args below meth c T locs a0 hx hc hZ ho hw X hR tg hs => XS.ifNo X.here hx rfl (hb hc hd) rfl (XT.i0_ge_f q) hs) (hk _ _ _ _ _ _ h))
  · have hd := hd0; simp only [ilen] at hd; have hh := popI_e h; clear h; obtain ⟨x, r, rfl, h⟩ := hh; (try dsimp only at h); split at h <;> rename_i q <;> first | (have h1 := hoff; simp only [off] at h1; exact G.pure (fun p e s m args below meth c T locs a0 hx hc hZ ho hw X hR tg hs => XS.ifYes X.here hx rfl rfl (hb hc hd) rfl (XT.i0_gt_t q) h1 rfl hs) (hk _ _ _ _ _ _ h)) | (exact G.pure (fun p e s m args below meth c T locs a0 hx hc hZ ho hw X hR tg hs => XS.ifNo X.here hx rfl (hb hc hd) rfl (XT.i0_gt_f q) hs) (hk _ _ _ _ _ _ h))
  · have hd := hd0; simp only [ilen] at hd; have hh := popI_e h; clear h; obtain ⟨x, r, rfl, h⟩ := hh; (try dsimp only at h); split at h <;> rename_i q <;> first | (have h1 := hoff; simp only [off] at h1; exact G.pure (fun p e s m args below meth c T locs a0 hx hc hZ ho hw X hR tg hs => XS.ifYes X.here hx rfl rfl (hb hc hd) rfl (XT.i0_le_t q) h1 rfl hs) (hk _ _ _ _ _ _ h)) | (exact G.pure (fun p e s m args below meth c T locs a0 hx hc hZ ho hw X hR tg hs => XS.ifNo X.here hx rfl (hb hc hd) rfl (XT.i0_le_f q) hs) (hk _ _ _ _ _ _ h))
  · have hd := hd0; simp only [ilen] at hd; have hh := popI_e h; clear h; obtain ⟨y, r, rfl, h⟩ := hh; have hh := popI_e h; clear h; obtain ⟨x, r, rfl, h⟩ := hh; (try dsimp only at h); split at h <;> rename_i q <;> first | (have h1 := hoff; simp only [off] at h1; exact G.pure (fun p e s m args below meth c T locs a0 hx hc hZ ho hw X hR tg hs => XS.icmpYes X.here hx rfl rfl (hb hc hd) rfl (XT.ii_eq_t q) h1 rfl hs) (hk _ _ _ _ _ _ h)) | (exact G.pure (fun p e s m args below meth c T locs a0 hx hc hZ ho hw X hR tg hs => XS.icmpNo X.here hx rfl (hb hc hd) rfl (XT.ii_eq_f q) hs) (hk _ _ _ _ _ _ h))
  · have hd := hd0; simp only [ilen] at hd; have hh := popI_e h; clear h; obtain ⟨y, r, rfl, h⟩ := hh; have hh := popI_e h; clear h; obtain ⟨x, r, rfl, h⟩ := hh; (try dsimp only at h); split at h <;> rename_i q <;> first | (have h1 := hoff; simp only [off] at h1; exact G.pure (fun p e s m args below meth c T locs a0 hx hc hZ ho hw X hR tg hs => XS.icmpYes X.here hx rfl rfl (hb hc hd) rfl (XT.ii_ne_t q) h1 rfl hs) (hk _ _ _ _ _ _ h)) | (exact G.pure (fun p e s m args below meth c T locs a0 hx hc hZ ho hw X hR tg hs => XS.icmpNo X.here hx rfl (hb hc hd) rfl (XT.ii_ne_f q) hs) (hk _ _ _ _ _ _ h))
  · have hd := hd0; simp only [ilen] at hd; have hh := popI_e h; clear h; obtain ⟨y, r, rfl, h⟩ := hh; have hh := popI_e h; clear h; obtain ⟨x, r, rfl, h⟩ := hh; (try dsimp only at h); split at h <;> rename_i q <;> first | (have h1 := hoff; simp only [off] at h1; exact G.pure (fun p e s m args below meth c T locs a0 hx hc hZ ho hw X hR tg hs => XS.icmpYes X.here hx rfl rfl (hb hc hd) rfl (XT.ii_lt_t q) h1 rfl hs) (hk _ _ _ _ _ _ h)) | (exact G.pure (fun p e s m args below meth c T locs a0 hx hc hZ ho hw X hR tg hs => XS.icmpNo X.here hx rfl (hb hc hd) rfl (XT.ii_lt_f q) hs) (hk _ _ _ _ _ _ h))
  · have hd := hd0; simp only [ilen] at hd; have hh := popI_e h; clear h; obtain ⟨y, r, rfl, h⟩ := hh; have hh := popI_e h; clear h; obtain ⟨x, r, rfl, h⟩ := hh; (try dsimp only at h); split at h <;> rename_i q <;> first | (have h1 := hoff; simp only [off] at h1; exact G.pure (fun p e s m args below meth c T locs a0 hx hc hZ ho hw X hR tg hs => XS.icmpYes X.here hx rfl rfl (hb hc hd) rfl (XT.ii_ge_t q) h1 rfl hs) (hk _ _ _ _ _ _ h)) | (exact G.pure (fun p e s m args below meth c T locs a0 hx hc hZ ho hw X hR tg hs => XS.icmpNo X.here hx rfl (hb hc hd) rfl (XT.ii_ge_f q) hs) (hk _ _ _ _ _ _ h))
  · have hd := hd0; simp only [ilen] at hd; have hh := popI_e h; clear h; obtain ⟨y, r, rfl, h⟩ := hh; have hh := popI_e h; clear h; obtain ⟨x, r, rfl, h⟩ := hh; (try dsimp only at h); split at h <;> rename_i q <;> first | (have h1 := hoff; simp only [off] at h1; exact G.pure (fun p e s m args below meth c T locs a0 hx hc hZ ho hw X hR tg hs => XS.icmpYes X.here hx rfl rfl (hb hc hd) rfl (XT.ii_gt_t q) h1 rfl hs) (hk _ _ _ _ _ _ h)) | (exact G.pure (fun p e s m args below meth c T locs a0 hx hc hZ ho hw X hR tg hs => XS.icmpNo X.here hx rfl (hb hc hd) rfl (XT.ii_gt_f q) hs) (hk _ _ _ _ _ _ h))
  · have hd := hd0; simp only [ilen] at hd; have hh := popI_e h; clear h; obtain ⟨y, r, rfl, h⟩ := hh; have hh := popI_e h; clear h; obtain ⟨x, r, rfl, h⟩ := hh; (try dsimp only at h); split at h <;> rename_i q <;> first | (have h1 := hoff; simp only [off] at h1; exact G.pure (fun p e s m args below meth c T locs a0 hx hc hZ ho hw X hR tg hs => XS.icmpYes X.here hx rfl rfl (hb hc hd) rfl (XT.ii_le_t q) h1 rfl hs) (hk _ _ _ _ _ _ h)) | (exact G.pure (fun p e s m args below meth c T locs a0 hx hc hZ ho hw X hR tg hs => XS.icmpNo X.here hx rfl (hb hc hd) rfl (XT.ii_le_f q) hs) (hk _ _ _ _ _ _ h))
  · have hd := hd0; simp only [ilen] at hd; (try dsimp only at h); split at h
    · (have h1 := hoff; simp only [off] at h1; exact G.pure (fun p e s m args below meth c T locs a0 hx hc hZ ho hw X hR tg hs => XS.ifnullYes X.here hx rfl rfl (hb hc hd) rfl h1 rfl hs) (hk _ _ _ _ _ _ h))
    · exact G.pure (fun p e s m args below meth c T locs a0 hx hc hZ ho hw X hR tg hs => XS.ifnullNo X.here hx rfl (hb hc hd) rfl hs) (hk _ _ _ _ _ _ h)
    · exact h.elim
  · have hd := hd0; simp only [ilen] at hd; (try dsimp only at h); split at h
    · exact G.pure (fun p e s m args below meth c T locs a0 hx hc hZ ho hw X hR tg hs => XT.ifnonnullNo X.here hx rfl (hb hc hd) rfl hs) (hk _ _ _ _ _ _ h)
    · (have h1 := hoff; simp only [off] at h1; exact G.pure (fun p e s m args below meth c T locs a0 hx hc hZ ho hw X hR tg hs => XT.ifnonnullYes X.here hx rfl rfl (hb hc hd) rfl h1 rfl hs) (hk _ _ _ _ _ _ h))
    · exact h.elim
  · have hd := hd0; simp only [ilen] at hd; have hh := popR_e h; clear h; obtain ⟨a, r, rfl, h⟩ := hh; have hh := arr_e h; clear h; obtain ⟨i, ty, vs, rfl, q, h⟩ := hh; refine G.pure (fun p e s m args below meth c T locs a0 hx hc hZ ho hw X hR tg hs => ?_) (hk _ _ _ _ _ _ h); obtain ⟨cl, A, e1⟩ := hR.2 _ _ q; exact X.arraylength hx A.1 (State.isArrayOf_alike hZ.alike A.2.1) (g := mkF m pc ls.toArray (.ref (ad b.size i) :: r)) rfl rfl (hb hc hd) _ (by rw [e1]; exact hs)
  · have hd := hd0; simp only [ilen] at hd; have hh := popI_e h; clear h; obtain ⟨j, r, rfl, h⟩ := hh; have hh := popR_e h; clear h; obtain ⟨a, r, rfl, h⟩ := hh; have hh := arr_e h; clear h; obtain ⟨i, ty, vs, rfl, q, h⟩ := hh; have hh := ifF_e h; clear h; obtain ⟨rfl, h⟩ := hh; have hh := idx_e h; clear h; obtain ⟨hj, v, hv, h⟩ := hh; refine G.pure (fun p e s m args below meth c T locs a0 hx hc hZ ho hw X hR tg hs => ?_) (hk _ _ _ _ _ _ h); obtain ⟨cl, A, e1⟩ := hR.2 _ _ q; have hlt := (List.getElem?_eq_some_iff.mp hv).1; exact X.baloadBytes hx A.1 (State.isArrayOf_alike hZ.alike A.2.1) A.2.2 (fun z => z.elim hj (fun z => by rw [e1] at z; simp at z; omega)) (by rw [e1]; simpa using hv) (g := mkF m pc ls.toArray (.int j :: .ref (ad b.size i) :: r)) rfl rfl (hb hc hd) _ hs
  · have hd := hd0; simp only [ilen] at hd; have hh := popI_e h; clear h; obtain ⟨j, r, rfl, h⟩ := hh; have hh := popR_e h; clear h; obtain ⟨a, r, rfl, h⟩ := hh; have hh := arr_e h; clear h; obtain ⟨i, ty, vs, rfl, q, h⟩ := hh; have hh := ifF_e h; clear h; obtain ⟨rfl, h⟩ := hh; have hh := idx_e h; clear h; obtain ⟨hj, v, hv, h⟩ := hh; refine G.pure (fun p e s m args below meth c T locs a0 hx hc hZ ho hw X hR tg hs => ?_) (hk _ _ _ _ _ _ h); obtain ⟨cl, A, e1⟩ := hR.2 _ _ q; have hlt := (List.getElem?_eq_some_iff.mp hv).1; exact X.caload hx A.1 (State.isArrayOf_alike hZ.alike A.2.1) A.2.2 (fun z => z.elim hj (fun z => by rw [e1] at z; simp at z; omega)) (by rw [e1]; simpa using hv) (g := mkF m pc ls.toArray (.int j :: .ref (ad b.size i) :: r)) rfl rfl (hb hc hd) _ hs
  · have hd := hd0; simp only [ilen] at hd; have hh := popI_e h; clear h; obtain ⟨j, r, rfl, h⟩ := hh; have hh := popR_e h; clear h; obtain ⟨a, r, rfl, h⟩ := hh; have hh := arr_e h; clear h; obtain ⟨i, ty, vs, rfl, q, h⟩ := hh; have hh := ifF_e h; clear h; obtain ⟨rfl, h⟩ := hh; have hh := idx_e h; clear h; obtain ⟨hj, v, hv, h⟩ := hh; refine G.pure (fun p e s m args below meth c T locs a0 hx hc hZ ho hw X hR tg hs => ?_) (hk _ _ _ _ _ _ h); obtain ⟨cl, A, e1⟩ := hR.2 _ _ q; have hlt := (List.getElem?_eq_some_iff.mp hv).1; exact X.iaload hx A.1 (State.isArrayOf_alike hZ.alike A.2.1) A.2.2 (fun z => z.elim hj (fun z => by rw [e1] at z; simp at z; omega)) (by rw [e1]; simpa using hv) (g := mkF m pc ls.toArray (.int j :: .ref (ad b.size i) :: r)) rfl rfl (hb hc hd) _ hs
  · have hd := hd0; simp only [ilen] at hd; have hh := popI_e h; clear h; obtain ⟨j, r, rfl, h⟩ := hh; have hh := popR_e h; clear h; obtain ⟨a, r, rfl, h⟩ := hh; have hh := arr_e h; clear h; obtain ⟨i, ty, vs, rfl, q, h⟩ := hh; have hh := ifF_e h; clear h; obtain ⟨rfl, h⟩ := hh; have hh := idx_e h; clear h; obtain ⟨hj, v, hv, h⟩ := hh; refine G.pure (fun p e s m args below meth c T locs a0 hx hc hZ ho hw X hR tg hs => ?_) (hk _ _ _ _ _ _ h); obtain ⟨cl, A, e1⟩ := hR.2 _ _ q; have hlt := (List.getElem?_eq_some_iff.mp hv).1; exact X.laload hx A.1 (State.isArrayOf_alike hZ.alike A.2.1) A.2.2 (fun z => z.elim hj (fun z => by rw [e1] at z; simp at z; omega)) (by rw [e1]; simpa using hv) (g := mkF m pc ls.toArray (.int j :: .ref (ad b.size i) :: r)) rfl rfl (hb hc hd) _ hs
  · have hd := hd0; simp only [ilen] at hd; have hh := popI_e h; clear h; obtain ⟨x, r, rfl, h⟩ := hh; have hh := popI_e h; clear h; obtain ⟨j, r, rfl, h⟩ := hh; have hh := popR_e h; clear h; obtain ⟨a, r, rfl, h⟩ := hh; have hh := arr_e h; clear h; obtain ⟨i, ty, vs, rfl, q, h⟩ := hh; have hh := ifF_e h; clear h; obtain ⟨rfl, h⟩ := hh; have hh := idx_e h; clear h; obtain ⟨hj, v, hv, h⟩ := hh; refine G.move (fun p e s m args below meth c T locs a0 hx hc hm hn hZ ho hw X hF hR => ?_) (hk _ _ _ _ _ _ h); obtain ⟨cl, A, e1⟩ := hR.2 _ _ q; have hlt := (List.getElem?_eq_some_iff.mp hv).1; obtain ⟨T', h', X', e2, Wt, sp⟩ := stB X hx hZ rfl A (j := j) (x := x) (fun z => z.elim hj (fun z => by rw [e1] at z; simp at z; omega)) (g := mkF m pc ls.toArray (.int x :: .int j :: .ref (ad b.size i) :: r)) rfl rfl (hb hc hd); exact ⟨T', _, X', hF.app (fun y hy => by cases List.mem_singleton.mp hy; exact Nat.le_add_right _ _), by rw [e2]; exact hR.setArr q Wt, sp⟩
  · have hd := hd0; simp only [ilen] at hd; have hh := popI_e h; clear h; obtain ⟨x, r, rfl, h⟩ := hh; have hh := popI_e h; clear h; obtain ⟨j, r, rfl, h⟩ := hh; have hh := popR_e h; clear h; obtain ⟨a, r, rfl, h⟩ := hh; have hh := arr_e h; clear h; obtain ⟨i, ty, vs, rfl, q, h⟩ := hh; have hh := ifF_e h; clear h; obtain ⟨rfl, h⟩ := hh; have hh := idx_e h; clear h; obtain ⟨hj, v, hv, h⟩ := hh; refine G.move (fun p e s m args below meth c T locs a0 hx hc hm hn hZ ho hw X hF hR => ?_) (hk _ _ _ _ _ _ h); obtain ⟨cl, A, e1⟩ := hR.2 _ _ q; have hlt := (List.getElem?_eq_some_iff.mp hv).1; obtain ⟨T', h', X', e2, Wt, sp⟩ := stC X hx hZ rfl A (j := j) (x := x) (fun z => z.elim hj (fun z => by rw [e1] at z; simp at z; omega)) (g := mkF m pc ls.toArray (.int x :: .int j :: .ref (ad b.size i) :: r)) rfl rfl (hb hc hd); exact ⟨T', _, X', hF.app (fun y hy => by cases List.mem_singleton.mp hy; exact Nat.le_add_right _ _), by rw [e2]; exact hR.setArr q Wt, sp⟩
  · have hd := hd0; simp only [ilen] at hd; have hh := popI_e h; clear h; obtain ⟨x, r, rfl, h⟩ := hh; have hh := popI_e h; clear h; obtain ⟨j, r, rfl, h⟩ := hh; have hh := popR_e h; clear h; obtain ⟨a, r, rfl, h⟩ := hh; have hh := arr_e h; clear h; obtain ⟨i, ty, vs, rfl, q, h⟩ := hh; have hh := ifF_e h; clear h; obtain ⟨rfl, h⟩ := hh; have hh := idx_e h; clear h; obtain ⟨hj, v, hv, h⟩ := hh; refine G.move (fun p e s m args below meth c T locs a0 hx hc hm hn hZ ho hw X hF hR => ?_) (hk _ _ _ _ _ _ h); obtain ⟨cl, A, e1⟩ := hR.2 _ _ q; have hlt := (List.getElem?_eq_some_iff.mp hv).1; obtain ⟨T', h', X', e2, Wt, sp⟩ := stI X hx hZ rfl A (j := j) (x := x) (fun z => z.elim hj (fun z => by rw [e1] at z; simp at z; omega)) (g := mkF m pc ls.toArray (.int x :: .int j :: .ref (ad b.size i) :: r)) rfl rfl (hb hc hd); exact ⟨T', _, X', hF.app (fun y hy => by cases List.mem_singleton.mp hy; exact Nat.le_add_right _ _), by rw [e2]; exact hR.setArr q Wt, sp⟩
  · have hd := hd0; simp only [ilen] at hd; have hh := popJ_e h; clear h; obtain ⟨x, r, rfl, h⟩ := hh; have hh := popI_e h; clear h; obtain ⟨j, r, rfl, h⟩ := hh; have hh := popR_e h; clear h; obtain ⟨a, r, rfl, h⟩ := hh; have hh := arr_e h; clear h; obtain ⟨i, ty, vs, rfl, q, h⟩ := hh; have hh := ifF_e h; clear h; obtain ⟨rfl, h⟩ := hh; have hh := idx_e h; clear h; obtain ⟨hj, v, hv, h⟩ := hh; refine G.move (fun p e s m args below meth c T locs a0 hx hc hm hn hZ ho hw X hF hR => ?_) (hk _ _ _ _ _ _ h); obtain ⟨cl, A, e1⟩ := hR.2 _ _ q; have hlt := (List.getElem?_eq_some_iff.mp hv).1; obtain ⟨T', h', X', e2, Wt, sp⟩ := stJ X hx hZ rfl A (j := j) (x := x) (fun z => z.elim hj (fun z => by rw [e1] at z; simp at z; omega)) (g := mkF m pc ls.toArray (.long x :: .int j :: .ref (ad b.size i) :: r)) rfl rfl (hb hc hd); exact ⟨T', _, X', hF.app (fun y hy => by cases List.mem_singleton.mp hy; exact Nat.le_add_right _ _), by rw [e2]; exact hR.setArr q Wt, sp⟩
  · have hd := hd0; simp only [ilen] at hd; have hh := popI_e h; clear h; obtain ⟨n, r, rfl, h⟩ := hh; have hh := ifF_e h; clear h; obtain ⟨⟨hn0, hA, hcap, hc1, hs1⟩, h⟩ := hh; refine G.move (fun p e s m args below meth c T locs a0 hx hc hm hn hZ ho hw X hF hR => ?_) (hk _ _ _ _ _ _ h); exact newA_step X hx hZ (hw _ (hAL _ hA)) hF hR (hb hc hd) hn0 hcap hc1 hs1
  · have hd := hd0; simp only [ilen] at hd; have hh := popI_e h; clear h; obtain ⟨x, r, rfl, h⟩ := hh; have hh := ifF_e h; clear h; obtain ⟨⟨hc1, hs1⟩, hK⟩ := hh; (try dsimp only at hK); split at hK
    · exact G.leave (fun q => by cases q) (fun p e s m args below meth c T locs hx hc hr X fs hfs => retI X hx hr (hb hc hd) hfs) hc1 hs1 hK
    · exact G.leave (fun q => by cases q) (fun p e s m args below meth c T locs hx hc hr X fs hfs => retN X hx hr (by simp) (hb hc hd) hfs) hc1 hs1 hK
    · exact G.leave (fun q => by cases q) (fun p e s m args below meth c T locs hx hc hr X fs hfs => retN X hx hr (by simp) (hb hc hd) hfs) hc1 hs1 hK
    · exact G.leave (fun q => by cases q) (fun p e s m args below meth c T locs hx hc hr X fs hfs => retN X hx hr (by simp) (hb hc hd) hfs) hc1 hs1 hK
    · exact G.leave (fun q => by cases q) (fun p e s m args below meth c T locs hx hc hr X fs hfs => retN X hx hr (by simp) (hb hc hd) hfs) hc1 hs1 hK
    · exact hK.elim
  · have hd := hd0; simp only [ilen] at hd; have hh := popJ_e h; clear h; obtain ⟨x, r, rfl, h⟩ := hh; have hh := ifF_e h; clear h; obtain ⟨⟨hc1, hs1, rfl, rfl⟩, hK⟩ := hh; exact G.leave (fun q => by cases q) (fun p e s m args below meth c T locs hx hc hr X fs hfs => X.lreturnOut hx hr (hb hc hd) hfs) hc1 hs1 hK
  · have hd := hd0; simp only [ilen] at hd; have hh := popR_e h; clear h; obtain ⟨x, r, rfl, h⟩ := hh; have hh := ifF_e h; clear h; obtain ⟨⟨hc1, hs1, rfl⟩, hK⟩ := hh; exact G.leave (fun q => by cases q) (fun p e s m args below meth c T locs hx hc hr X fs hfs => retOut X hx hr rfl (Or.inr (Or.inr (Or.inr (Or.inr ⟨rfl, rfl, rfl⟩)))) (hb hc hd) hfs) hc1 hs1 hK
  · have hd := hd0; simp only [ilen] at hd; have hh := ifF_e h; clear h; obtain ⟨⟨hc1, hs1, rfl, rfl⟩, hK⟩ := hh; exact G.leave (fun _ => rfl) (fun p e s m args below meth c T locs hx hc hr X fs hfs => X.returnOut hx hr (hb hc hd) hfs) hc1 hs1 hK
  · have hd := hd0; simp only [ilen] at hd; have hh := popR_e h; clear h; obtain ⟨a, r, rfl, h⟩ := hh; have hh := onSome_e h; clear h; obtain ⟨⟨C0, n, d⟩, ql, h⟩ := hh; have hh := obj_e h; clear h; obtain ⟨i, C, fs, rfl, q, h⟩ := hh; have hh := ifF_e h; clear h; obtain ⟨rfl, h⟩ := hh; have hh := onSome_e h; clear h; obtain ⟨v, hv, h⟩ := hh; refine G.move (fun p e s m args below meth c T locs a0 hx hc hm hn hZ ho hw X hF hR => ?_) (hk _ _ _ _ _ _ h); obtain ⟨E, F, -⟩ := hR.2 _ _ q; obtain ⟨T', X', e1, sp⟩ := getF X hx hZ ho (host := "") (Or.inl (hw _ (hFL _ (look_mem ql)))) Via.refl rfl (F _ (fget_mem hv)) (g := mkF m pc ls.toArray (.ref (ad b.size i) :: r)) rfl rfl (hb hc hd); exact ⟨T', _, X', hF, by rw [e1]; exact hR, sp⟩
  · have hd := hd0; simp only [ilen] at hd; have hh := onSome_e h; clear h; obtain ⟨⟨C, n, fs⟩, ql, h⟩ := hh; have hh := ifF_e h; clear h; obtain ⟨⟨hc1, hs1⟩, h⟩ := hh; exact G.new (hNL _ (look_mem ql)) hd hc1 hs1 (hk _ _ _ _ _ _ h)
  · have hd := hd0; simp only [ilen] at hd; have hh := onSome_e h; clear h; obtain ⟨⟨C0, n, d, ty⟩, ql, h⟩ := hh; (try dsimp only at h); split at h
    · (have hh := popJ_e h; clear h; obtain ⟨x, r, rfl, h⟩ := hh; have hh := popR_e h; clear h; obtain ⟨a, r, rfl, h⟩ := hh; have hh := obj_e h; clear h; obtain ⟨i, C, fs, rfl, q, h⟩ := hh; have hh := ifF_e h; clear h; obtain ⟨rfl, h⟩ := hh; have hh := onSome_e h; clear h; obtain ⟨old, hv, h⟩ := hh; exact G.putf (hPL _ (look_mem ql)) rfl rfl hd q hv (hk _ _ _ _ _ _ h))
    · (have hh := popI_e h; clear h; obtain ⟨x, r, rfl, h⟩ := hh; have hh := popR_e h; clear h; obtain ⟨a, r, rfl, h⟩ := hh; have hh := obj_e h; clear h; obtain ⟨i, C, fs, rfl, q, h⟩ := hh; have hh := ifF_e h; clear h; obtain ⟨rfl, h⟩ := hh; have hh := onSome_e h; clear h; obtain ⟨old, hv, h⟩ := hh; exact G.putf (hPL _ (look_mem ql)) rfl rfl hd q hv (hk _ _ _ _ _ _ h))
    · (have hh := popI_e h; clear h; obtain ⟨x, r, rfl, h⟩ := hh; have hh := popR_e h; clear h; obtain ⟨a, r, rfl, h⟩ := hh; have hh := obj_e h; clear h; obtain ⟨i, C, fs, rfl, q, h⟩ := hh; have hh := ifF_e h; clear h; obtain ⟨rfl, h⟩ := hh; have hh := onSome_e h; clear h; obtain ⟨old, hv, h⟩ := hh; exact G.putf (hPL _ (look_mem ql)) rfl (fits_nar_bool x) hd q hv (hk _ _ _ _ _ _ h))
    · (have hh := popA_e h; clear h; obtain ⟨x, r, rfl, hv1, hv2, h⟩ := hh; have hh := popR_e h; clear h; obtain ⟨a, r, rfl, h⟩ := hh; have hh := obj_e h; clear h; obtain ⟨i, C, fs, rfl, q, h⟩ := hh; have hh := ifF_e h; clear h; obtain ⟨rfl, h⟩ := hh; have hh := onSome_e h; clear h; obtain ⟨old, hv, h⟩ := hh; exact G.putf (hPL _ (look_mem ql)) (by cases x <;> first | rfl | cases hv1) (by cases x <;> first | rfl | cases hv1) hd q hv (hk _ _ _ _ _ _ h))
    · (have hh := popA_e h; clear h; obtain ⟨x, r, rfl, hv1, hv2, h⟩ := hh; have hh := popR_e h; clear h; obtain ⟨a, r, rfl, h⟩ := hh; have hh := obj_e h; clear h; obtain ⟨i, C, fs, rfl, q, h⟩ := hh; have hh := ifF_e h; clear h; obtain ⟨rfl, h⟩ := hh; have hh := onSome_e h; clear h; obtain ⟨old, hv, h⟩ := hh; exact G.putf (hPL _ (look_mem ql)) (by cases x <;> first | rfl | cases hv1) (by cases x <;> first | rfl | cases hv1) hd q hv (hk _ _ _ _ _ _ h))
    · exact h.elim
  · exact h
theorem G.run {S : List Nat} (n : Nat) (hCI : ∀ x ∈ CI, Jvm.Cond.constant own x.1 x.2 ∈ W) (hCL : ∀ x ∈ CL, Jvm.Cond.constantLong own x.1 x.2 ∈ W) (hFL : ∀ x ∈ FL, Jvm.Cond.fieldLink own x.1 x.2.1 x.2.2.1 x.2.2.2 ∈ W) (hAL : ∀ x ∈ AL, Jvm.Cond.arrayClass x ∈ W) (hPL : ∀ x ∈ PL, PutOk W own nm x.1 x.2.1 x.2.2.1 x.2.2.2.1 x.2.2.2.2) (hNL : ∀ x ∈ NL, NewOk W own x.1 x.2.1 x.2.2.1 x.2.2.2) :
    ∀ {pc : Nat} {ls : List Slot} {st : List Value} {H : List Cel} {cN sN : Nat}, Wn S code CI CL FL AL PL NL ret R b.size rc rs K (G code own nm maxL ret R W l Z b rc rs K) n pc ls st H cN sN → G code own nm maxL ret R W l Z b rc rs K pc ls st H cN sN := by
  induction n with
  | zero => exact fun h => h
  | succ n ih =>
    intro pc ls st H cN sN h
    unfold Wn at h
    split at h
    · exact h
    · obtain ⟨i, hi, h⟩ := onSome_e h
      exact W1_sound hCI hCL hFL hAL hPL hNL (at1_o hi).1 (at1_o hi).2 (fun _ _ _ _ _ _ q => ih q) h
/-- one step from a place at which runs stop, then a run -/
theorem G.enter {S : List Nat} (n : Nat) (hCI : ∀ x ∈ CI, Jvm.Cond.constant own x.1 x.2 ∈ W) (hCL : ∀ x ∈ CL, Jvm.Cond.constantLong own x.1 x.2 ∈ W) (hFL : ∀ x ∈ FL, Jvm.Cond.fieldLink own x.1 x.2.1 x.2.2.1 x.2.2.2 ∈ W) (hAL : ∀ x ∈ AL, Jvm.Cond.arrayClass x ∈ W) (hPL : ∀ x ∈ PL, PutOk W own nm x.1 x.2.1 x.2.2.1 x.2.2.2.1 x.2.2.2.2) (hNL : ∀ x ∈ NL, NewOk W own x.1 x.2.1 x.2.2.1 x.2.2.2) {i : Instr} {pc : Nat} {ls : List Slot} {st : List Value} {H : List Cel} {cN sN : Nat} (hi : at1 code pc = some i)
    (h : W1 CI CL FL AL PL NL ret R b.size rc rs K (G code own nm maxL ret R W l Z b rc rs K) i pc ls st H cN sN (Wn S code CI CL FL AL PL NL ret R b.size rc rs K (G code own nm maxL ret R W l Z b rc rs K) n)) : G code own nm maxL ret R W l Z b rc rs K pc ls st H cN sN :=
  W1_sound hCI hCL hFL hAL hPL hNL (at1_o hi).1 (at1_o hi).2 (fun _ _ _ _ _ _ q => G.run n hCI hCL hFL hAL hPL hNL q) h
end Sound
section Eqs
variable {CI : List (Nat × Int32)} {CL : List (Nat × Int64)} {FL : List (Nat × String × String × String)} {AL : List FieldType} {PL : List (Nat × String × String × String × FieldType)} {NL : List (Nat × String × Nat × List (String × String × Value))} {ret : Option FieldType} {R : Room} {n0 rc rs : Nat} {K : Option Value → List Cel → Prop} {g k : Cont} {pc : Nat} {ls : List Slot} {st : List Value} {H : List Cel} {cN sN : Nat} {code : ByteArray}
theorem wn_s {S : List Nat} {n : Nat} (h : pc ∉ S) : Wn S code CI CL FL AL PL NL ret R n0 rc rs K g (n + 1) pc ls st H cN sN = onSome (at1 code pc) fun i => W1 CI CL FL AL PL NL ret R n0 rc rs K g i pc ls st H cN sN (Wn S code CI CL FL AL PL NL ret R n0 rc rs K g n) := if_neg h
theorem wn_p {S : List Nat} {n : Nat} (h : pc ∈ S) : Wn S code CI CL FL AL PL NL ret R n0 rc rs K g (n + 1) pc ls st H cN sN = g pc ls st H cN sN := if_pos h
end Eqs
end Jvm.OwnKit
namespace Jvm.OwnKit
open Sem ClassFile Op Lib Jvm.Stand Jvm.Free Jvm.LawKit Jvm.RoadKit
section Calls
variable {code : ByteArray} {own nm : String} {maxL : Nat} {ret : Option FieldType} {R : Room} {W : List Jvm.Cond} {l : Launch} {Z : State} {b : Heap} {rc rs : Nat} {K : Option Value → List Cel → Prop}
variable {pc : Nat} {ls : List Slot} {st : List Value} {H : List Cel} {cN sN : Nat}
def wt (rest : List Value) : Nat := (rest.map fun v => v.category).sum
theorem G.callS {idx : Nat} {y : MethodName} {bytes : ByteArray} {mL : Nat} {rt : Option FieldType} {rm : Room} {as rest : List Value} {K' : Option Value → List Cel → Prop} {ps : List FieldType} {r : Option FieldType}
    (w1 : Jvm.Cond.methodLink own idx y ∈ W) (w2 : Jvm.Cond.static y ∈ W) (w3 : Jvm.Cond.initialized y.cls ∈ W) (w4 : Jvm.Cond.code y bytes mL rt ∈ W) (hy : y.cls ≠ "java/lang/invoke/MethodHandle" ∧ y.cls ≠ "java/lang/invoke/VarHandle") (hds : parseMethodDescriptor y.desc = some ⟨ps, r⟩)
    (C : Con W l Z b y bytes mL rt rm as H K') (hd : at1 code pc = some (.invokestatic idx)) (hst : st = as.reverse ++ rest) (hlen : as.length = ps.length) (hls : ls.length = maxL)
    (hf : rm.frames + 1 ≤ R.frames) (hlo : wt rest + (mL + 11) + rm.locals ≤ R.locals) (hc : cN + rm.cells ≤ R.cells) (hs : sN + rm.slots ≤ R.slots)
    (k : ∀ v H', K' v H' → G code own nm maxL ret R W l Z b rc rs K (pc + 3) ls (v.toList ++ rest) H' (cN + rm.cells) (sN + rm.slots)) : G code own nm maxL ret R W l Z b rc rs K pc ls st H cN sN := by
  subst hst
  intro p e s m args below meth c T locs a0 hx hcd hm hr hk hn hZ ho hw X hF hR
  obtain ⟨v, vm₁, ⟨T', L', k', n'⟩, -, X', ⟨Lc, hQ, l1, y1, z1⟩, sp⟩ := Jvm.LawKit.callS X hx (y := y) ho (mvT hZ (hw _ w1)) (mvT hZ (hw _ w2)) (mvT hZ (hw _ w3)) (mvT hZ (hw _ w4)) hy
    (backOf (W := wt rest) (Q := fun v h L => Fr b.size L ∧ ∃ H', Rep Z b h H' ∧ K' v H') (C a0 T.heap hw hR) hZ (hw _ w4) (hw _ w3) hf hlo) (g := mkF m pc ls.toArray (as.reverse ++ rest)) rfl (by rw [hm]; simpa using hls) (argsL := as) (rest := rest) (lenOf hds hlen) rfl
    (by show 2 * 0 + _ ≤ _; exact Nat.le_of_eq (Nat.zero_add _)) (hb hcd (at1_e hd)) (fun _ _ => ⟨rfl, rfl, hc, hs⟩)
  dsimp only [Pt.U, Pt.locs, Pt.cells, Pt.slots] at X' l1 y1 z1 sp hQ
  subst l1 y1 z1
  obtain ⟨hF', H', hR', hK'⟩ := hQ
  obtain ⟨s₂, o, h1, h2⟩ := k v H' hK' p e s m args below meth c T' _ a0 hx hcd hm hr hk hn hZ ho hw X' (hF.app hF') hR'
  exact ⟨s₂, o, sp _ h1, h2⟩
/-- a constructor -/
theorem G.callI {idx : Nat} {y : MethodName} {bytes : ByteArray} {mL : Nat} {rm : Room} {a : Addr} {as rest : List Value} {K' : Option Value → List Cel → Prop} {ps : List FieldType} {r : Option FieldType}
    (hnm : y.name = "<init>") (w1 : Jvm.Cond.methodLink own idx y ∈ W) (w2 : Jvm.Cond.instanceMethod y ∈ W) (w3 : Jvm.Cond.initialized y.cls ∈ W) (w4 : Jvm.Cond.code y bytes mL none ∈ W) (hy : y.cls ≠ "java/lang/invoke/MethodHandle" ∧ y.cls ≠ "java/lang/invoke/VarHandle") (hds : parseMethodDescriptor y.desc = some ⟨ps, r⟩)
    (C : Con W l Z b y bytes mL none rm (.ref a :: as) H K') (hd : at1 code pc = some (.invokespecial idx)) (hst : st = as.reverse ++ .ref a :: rest) (hlen : as.length = ps.length) (hls : ls.length = maxL)
    (hf : rm.frames + 1 ≤ R.frames) (hlo : wt rest + (mL + 11) + rm.locals ≤ R.locals) (hc : cN + rm.cells ≤ R.cells) (hs : sN + rm.slots ≤ R.slots)
    (k : ∀ v H', K' v H' → G code own nm maxL ret R W l Z b rc rs K (pc + 3) ls (v.toList ++ rest) H' (cN + rm.cells) (sN + rm.slots)) : G code own nm maxL ret R W l Z b rc rs K pc ls st H cN sN := by
  subst hst
  intro p e s m args below meth c T locs a0 hx hcd hm hr hk hn hZ ho hw X hF hR
  obtain ⟨v, vm₁, ⟨T', L', k', n'⟩, -, X', ⟨Lc, hQ, l1, y1, z1⟩, sp⟩ := X.specialBack hx (y := y) hnm ho (mvT hZ (hw _ w1)) (mvT hZ (hw _ w2)) (mvT hZ (hw _ w4)) hy
    (backOf (W := wt rest) (Q := fun v h L => Fr b.size L ∧ ∃ H', Rep Z b h H' ∧ K' v H') (C a0 T.heap hw hR) hZ (hw _ w4) (hw _ w3) hf hlo) (g := mkF m pc ls.toArray (as.reverse ++ .ref a :: rest)) rfl (by rw [hm]; simpa using hls) (Steps.refl _) (a := a) (argsL := as) (rest := rest) (lenOf hds hlen) rfl
    (by show 2 * 0 + _ ≤ _; exact Nat.le_of_eq (Nat.zero_add _)) (hb hcd (at1_e hd)) (fun _ _ => ⟨rfl, rfl, hc, hs⟩)
  dsimp only [Pt.U, Pt.locs, Pt.cells, Pt.slots] at X' l1 y1 z1 sp hQ
  subst l1 y1 z1
  obtain ⟨hF', H', hR', hK'⟩ := hQ
  obtain ⟨s₂, o, h1, h2⟩ := k v H' hK' p e s m args below meth c T' _ a0 hx hcd hm hr hk hn hZ ho hw X' (hF.app hF') hR'
  exact ⟨s₂, o, sp.trans h1, h2⟩
/-- an instance method of an object of just that class -/
theorem G.callV {idx : Nat} {y : MethodName} {bytes : ByteArray} {mL : Nat} {rt : Option FieldType} {rm : Room} {i : Nat} {fs : List (String × String × Value)} {as rest : List Value} {K' : Option Value → List Cel → Prop} {ps : List FieldType} {r : Option FieldType}
    (w1 : Jvm.Cond.methodLink own idx y ∈ W) (w2 : Jvm.Cond.declares y ∈ W) (w3 : Jvm.Cond.selects y.cls y y ∈ W) (w4 : Jvm.Cond.instanceMethod y ∈ W) (w5 : Jvm.Cond.code y bytes mL rt ∈ W) (w6 : Jvm.Cond.initialized y.cls ∈ W) (hy : y.cls ≠ "java/lang/invoke/MethodHandle" ∧ y.cls ≠ "java/lang/invoke/VarHandle") (hds : parseMethodDescriptor y.desc = some ⟨ps, r⟩)
    (hi : H[i]? = some (.inr (y.cls, fs)))
    (C : Con W l Z b y bytes mL rt rm (.ref (ad b.size i) :: as) H K') (hd : at1 code pc = some (.invokevirtual idx)) (hst : st = as.reverse ++ .ref (ad b.size i) :: rest) (hlen : as.length = ps.length) (hls : ls.length = maxL)
    (hf : rm.frames + 1 ≤ R.frames) (hlo : wt rest + (mL + 11) + rm.locals ≤ R.locals) (hc : cN + rm.cells ≤ R.cells) (hs : sN + rm.slots ≤ R.slots)
    (k : ∀ v H', K' v H' → G code own nm maxL ret R W l Z b rc rs K (pc + 3) ls (v.toList ++ rest) H' (cN + rm.cells) (sN + rm.slots)) : G code own nm maxL ret R W l Z b rc rs K pc ls st H cN sN := by
  subst hst
  intro p e s m args below meth c T locs a0 hx hcd hm hr hk hn hZ ho hw X hF hR
  obtain ⟨cq, kq, qa, qb, qc⟩ := isOf (T := T) hZ rfl (hR.2 _ _ hi).1
  obtain ⟨v, vm₁, ⟨T', L', k', n'⟩, -, X', ⟨Lc, hQ, l1, y1, z1⟩, sp⟩ := X.virtualBack hx (y := y) (z := y) ho (mvT hZ (hw _ w1)) (mvT hZ (hw _ w2)) (notFace_of_selects (args := #[]) (mvT hZ (hw _ w3))) (mvT hZ (hw _ w3)) (mvT hZ (hw _ w4)) hy
    (backOf (W := wt rest) (Q := fun v h L => Fr b.size L ∧ ∃ H', Rep Z b h H' ∧ K' v H') (C a0 T.heap hw hR) hZ (hw _ w5) (hw _ w6) hf hlo) qa qc (g := mkF m pc ls.toArray (as.reverse ++ .ref (ad b.size i) :: rest)) rfl (by rw [hm]; simpa using hls) (Steps.refl _) (argsL := as) (rest := rest) (lenOf hds hlen) rfl
    (by show 2 * 0 + _ ≤ _; exact Nat.le_of_eq (Nat.zero_add _)) (hb hcd (at1_e hd)) (fun _ _ => ⟨rfl, rfl, hc, hs⟩)
  dsimp only [Pt.U, Pt.locs, Pt.cells, Pt.slots] at X' l1 y1 z1 sp hQ
  subst l1 y1 z1
  obtain ⟨hF', H', hR', hK'⟩ := hQ
  obtain ⟨s₂, o, h1, h2⟩ := k v H' hK' p e s m args below meth c T' _ a0 hx hcd hm hr hk hn hZ ho hw X' (hF.app hF') hR'
  exact ⟨s₂, o, sp.trans h1, h2⟩
/-- Object's constructor -/
theorem G.init0 {idx : Nat} {a : Addr} {rest : List Value} (w1 : Jvm.Cond.methodLink own idx Lib.objectInit ∈ W) (w2 : Jvm.Cond.instanceMethod Lib.objectInit ∈ W) (w3 : Jvm.Cond.code Lib.objectInit ⟨#[0xb1]⟩ 1 none ∈ W)
    (hd : at1 code pc = some (.invokespecial idx)) (hls : ls.length = maxL) (hf : 1 ≤ R.frames) (hlo : wt rest + 12 ≤ R.locals)
    (k : G code own nm maxL ret R W l Z b rc rs K (pc + 3) ls rest H cN sN) : G code own nm maxL ret R W l Z b rc rs K pc ls (.ref a :: rest) H cN sN := by
  refine G.move (fun p e s m args below meth c T locs a0 hx hc hm hn hZ ho hw X hF hR => ?_) k
  obtain ⟨T', X', e1, sp⟩ := initO X hx hZ ho (hw _ w1) (hw _ w2) (hw _ w3) rfl (g := mkF m pc ls.toArray (.ref a :: rest)) rfl (by rw [hm]; simpa using hls) rfl (hb hc (at1_e hd)) hf (W := wt rest) (by show 2 * 0 + _ ≤ _; exact Nat.le_of_eq (Nat.zero_add _)) hlo
  exact ⟨T', _, X', hF, by rw [e1]; exact hR, sp⟩
end Calls
end Jvm.OwnKit
namespace Jvm.OwnKit
open Sem ClassFile Op Lib Jvm.Stand Jvm.Free Jvm.LawKit Jvm.RoadKit
theorem rem_toInt (x y : Int32) : (remI x y).toInt = x.toInt.tmod y.toInt := by
  have hx1 := x.toInt_lt; have hx2 := x.le_toInt
  unfold remI
  rw [Int32.toInt_sub, Int32.toInt_mul, Int32.toInt_div, Int.bmod_mul_bmod, Int.sub_bmod_bmod]
  have e : x.toInt - x.toInt.tdiv y.toInt * y.toInt = x.toInt.tmod y.toInt := by
    have := Int.tmod_add_mul_tdiv x.toInt y.toInt
    rw [Int.mul_comm] at this; omega
  rw [e]
  have b1 := Int.natAbs_tmod x.toInt y.toInt
  have b2 := Nat.mod_le x.toInt.natAbs y.toInt.natAbs
  have b3 : x.toInt < 0 → x.toInt.tmod y.toInt ≤ 0 := fun h => by
    have q := Int.tmod_nonneg y.toInt (show 0 ≤ -x.toInt by omega)
    rw [Int.neg_tmod] at q; omega
  refine Int.bmod_eq_of_le ?_ ?_
  · omega
  · by_cases q : x.toInt < 0
    · have := b3 q; omega
    · omega
theorem rem_nn {x y : Int32} (h : 0 ≤ x.toInt) : (remI x y).toInt = x.toInt % y.toInt := by rw [rem_toInt, Int.tmod_eq_emod_of_nonneg h]
theorem remJ_nn {x y : Int64} (h : 0 ≤ x.toInt) : (remJ x y).toInt = x.toInt % y.toInt := Jvm.Kit.i64_rem_nonneg h
theorem cases2 {v : Int32} (h0 : 0 ≤ v.toInt) (h1 : v.toInt < 2) : v = 0 ∨ v = 1 := by
  have q : v.toInt = 0 ∨ v.toInt = 1 := by omega
  rcases q with h | h
  · exact (Or.inl (Int32.toInt_inj.mp (h.trans (by decide : (0 : Int) = (0 : Int32).toInt))))
  · exact (Or.inr (Int32.toInt_inj.mp (h.trans (by decide : (1 : Int) = (1 : Int32).toInt))))
theorem cases3 {v : Int32} (h0 : 0 ≤ v.toInt) (h1 : v.toInt < 3) : v = 0 ∨ v = 1 ∨ v = 2 := by
  have q : v.toInt = 0 ∨ v.toInt = 1 ∨ v.toInt = 2 := by omega
  rcases q with h | h | h
  · exact (Or.inl (Int32.toInt_inj.mp (h.trans (by decide : (0 : Int) = (0 : Int32).toInt))))
  · exact (Or.inr (Or.inl (Int32.toInt_inj.mp (h.trans (by decide : (1 : Int) = (1 : Int32).toInt)))))
  · exact (Or.inr (Or.inr (Int32.toInt_inj.mp (h.trans (by decide : (2 : Int) = (2 : Int32).toInt)))))
theorem cases4 {v : Int32} (h0 : 0 ≤ v.toInt) (h1 : v.toInt < 4) : v = 0 ∨ v = 1 ∨ v = 2 ∨ v = 3 := by
  have q : v.toInt = 0 ∨ v.toInt = 1 ∨ v.toInt = 2 ∨ v.toInt = 3 := by omega
  rcases q with h | h | h | h
  · exact (Or.inl (Int32.toInt_inj.mp (h.trans (by decide : (0 : Int) = (0 : Int32).toInt))))
  · exact (Or.inr (Or.inl (Int32.toInt_inj.mp (h.trans (by decide : (1 : Int) = (1 : Int32).toInt)))))
  · exact (Or.inr (Or.inr (Or.inl (Int32.toInt_inj.mp (h.trans (by decide : (2 : Int) = (2 : Int32).toInt))))))
  · exact (Or.inr (Or.inr (Or.inr (Int32.toInt_inj.mp (h.trans (by decide : (3 : Int) = (3 : Int32).toInt))))))
theorem cases5 {v : Int32} (h0 : 0 ≤ v.toInt) (h1 : v.toInt < 5) : v = 0 ∨ v = 1 ∨ v = 2 ∨ v = 3 ∨ v = 4 := by
  have q : v.toInt = 0 ∨ v.toInt = 1 ∨ v.toInt = 2 ∨ v.toInt = 3 ∨ v.toInt = 4 := by omega
  rcases q with h | h | h | h | h
  · exact (Or.inl (Int32.toInt_inj.mp (h.trans (by decide : (0 : Int) = (0 : Int32).toInt))))
  · exact (Or.inr (Or.inl (Int32.toInt_inj.mp (h.trans (by decide : (1 : Int) = (1 : Int32).toInt)))))
  · exact (Or.inr (Or.inr (Or.inl (Int32.toInt_inj.mp (h.trans (by decide : (2 : Int) = (2 : Int32).toInt))))))
  · exact (Or.inr (Or.inr (Or.inr (Or.inl (Int32.toInt_inj.mp (h.trans (by decide : (3 : Int) = (3 : Int32).toInt)))))))
  · exact (Or.inr (Or.inr (Or.inr (Or.inr (Int32.toInt_inj.mp (h.trans (by decide : (4 : Int) = (4 : Int32).toInt)))))))
theorem cases6 {v : Int32} (h0 : 0 ≤ v.toInt) (h1 : v.toInt < 6) : v = 0 ∨ v = 1 ∨ v = 2 ∨ v = 3 ∨ v = 4 ∨ v = 5 := by
  have q : v.toInt = 0 ∨ v.toInt = 1 ∨ v.toInt = 2 ∨ v.toInt = 3 ∨ v.toInt = 4 ∨ v.toInt = 5 := by omega
  rcases q with h | h | h | h | h | h
  · exact (Or.inl (Int32.toInt_inj.mp (h.trans (by decide : (0 : Int) = (0 : Int32).toInt))))
  · exact (Or.inr (Or.inl (Int32.toInt_inj.mp (h.trans (by decide : (1 : Int) = (1 : Int32).toInt)))))
  · exact (Or.inr (Or.inr (Or.inl (Int32.toInt_inj.mp (h.trans (by decide : (2 : Int) = (2 : Int32).toInt))))))
  · exact (Or.inr (Or.inr (Or.inr (Or.inl (Int32.toInt_inj.mp (h.trans (by decide : (3 : Int) = (3 : Int32).toInt)))))))
  · exact (Or.inr (Or.inr (Or.inr (Or.inr (Or.inl (Int32.toInt_inj.mp (h.trans (by decide : (4 : Int) = (4 : Int32).toInt))))))))
  · exact (Or.inr (Or.inr (Or.inr (Or.inr (Or.inr (Int32.toInt_inj.mp (h.trans (by decide : (5 : Int) = (5 : Int32).toInt))))))))
theorem cases7 {v : Int32} (h0 : 0 ≤ v.toInt) (h1 : v.toInt < 7) : v = 0 ∨ v = 1 ∨ v = 2 ∨ v = 3 ∨ v = 4 ∨ v = 5 ∨ v = 6 := by
  have q : v.toInt = 0 ∨ v.toInt = 1 ∨ v.toInt = 2 ∨ v.toInt = 3 ∨ v.toInt = 4 ∨ v.toInt = 5 ∨ v.toInt = 6 := by omega
  rcases q with h | h | h | h | h | h | h
  · exact (Or.inl (Int32.toInt_inj.mp (h.trans (by decide : (0 : Int) = (0 : Int32).toInt))))
  · exact (Or.inr (Or.inl (Int32.toInt_inj.mp (h.trans (by decide : (1 : Int) = (1 : Int32).toInt)))))
  · exact (Or.inr (Or.inr (Or.inl (Int32.toInt_inj.mp (h.trans (by decide : (2 : Int) = (2 : Int32).toInt))))))
  · exact (Or.inr (Or.inr (Or.inr (Or.inl (Int32.toInt_inj.mp (h.trans (by decide : (3 : Int) = (3 : Int32).toInt)))))))
  · exact (Or.inr (Or.inr (Or.inr (Or.inr (Or.inl (Int32.toInt_inj.mp (h.trans (by decide : (4 : Int) = (4 : Int32).toInt))))))))
  · exact (Or.inr (Or.inr (Or.inr (Or.inr (Or.inr (Or.inl (Int32.toInt_inj.mp (h.trans (by decide : (5 : Int) = (5 : Int32).toInt)))))))))
  · exact (Or.inr (Or.inr (Or.inr (Or.inr (Or.inr (Or.inr (Int32.toInt_inj.mp (h.trans (by decide : (6 : Int) = (6 : Int32).toInt)))))))))
theorem cases8 {v : Int32} (h0 : 0 ≤ v.toInt) (h1 : v.toInt < 8) : v = 0 ∨ v = 1 ∨ v = 2 ∨ v = 3 ∨ v = 4 ∨ v = 5 ∨ v = 6 ∨ v = 7 := by
  have q : v.toInt = 0 ∨ v.toInt = 1 ∨ v.toInt = 2 ∨ v.toInt = 3 ∨ v.toInt = 4 ∨ v.toInt = 5 ∨ v.toInt = 6 ∨ v.toInt = 7 := by omega
  rcases q with h | h | h | h | h | h | h | h
  · exact (Or.inl (Int32.toInt_inj.mp (h.trans (by decide : (0 : Int) = (0 : Int32).toInt))))
  · exact (Or.inr (Or.inl (Int32.toInt_inj.mp (h.trans (by decide : (1 : Int) = (1 : Int32).toInt)))))
  · exact (Or.inr (Or.inr (Or.inl (Int32.toInt_inj.mp (h.trans (by decide : (2 : Int) = (2 : Int32).toInt))))))
  · exact (Or.inr (Or.inr (Or.inr (Or.inl (Int32.toInt_inj.mp (h.trans (by decide : (3 : Int) = (3 : Int32).toInt)))))))
  · exact (Or.inr (Or.inr (Or.inr (Or.inr (Or.inl (Int32.toInt_inj.mp (h.trans (by decide : (4 : Int) = (4 : Int32).toInt))))))))
  · exact (Or.inr (Or.inr (Or.inr (Or.inr (Or.inr (Or.inl (Int32.toInt_inj.mp (h.trans (by decide : (5 : Int) = (5 : Int32).toInt)))))))))
  · exact (Or.inr (Or.inr (Or.inr (Or.inr (Or.inr (Or.inr (Or.inl (Int32.toInt_inj.mp (h.trans (by decide : (6 : Int) = (6 : Int32).toInt))))))))))
  · exact (Or.inr (Or.inr (Or.inr (Or.inr (Or.inr (Or.inr (Or.inr (Int32.toInt_inj.mp (h.trans (by decide : (7 : Int) = (7 : Int32).toInt))))))))))
theorem cases10 {v : Int32} (h0 : 0 ≤ v.toInt) (h1 : v.toInt < 10) : v = 0 ∨ v = 1 ∨ v = 2 ∨ v = 3 ∨ v = 4 ∨ v = 5 ∨ v = 6 ∨ v = 7 ∨ v = 8 ∨ v = 9 := by
  have q : v.toInt = 0 ∨ v.toInt = 1 ∨ v.toInt = 2 ∨ v.toInt = 3 ∨ v.toInt = 4 ∨ v.toInt = 5 ∨ v.toInt = 6 ∨ v.toInt = 7 ∨ v.toInt = 8 ∨ v.toInt = 9 := by omega
  rcases q with h | h | h | h | h | h | h | h | h | h
  · exact (Or.inl (Int32.toInt_inj.mp (h.trans (by decide : (0 : Int) = (0 : Int32).toInt))))
  · exact (Or.inr (Or.inl (Int32.toInt_inj.mp (h.trans (by decide : (1 : Int) = (1 : Int32).toInt)))))
  · exact (Or.inr (Or.inr (Or.inl (Int32.toInt_inj.mp (h.trans (by decide : (2 : Int) = (2 : Int32).toInt))))))
  · exact (Or.inr (Or.inr (Or.inr (Or.inl (Int32.toInt_inj.mp (h.trans (by decide : (3 : Int) = (3 : Int32).toInt)))))))
  · exact (Or.inr (Or.inr (Or.inr (Or.inr (Or.inl (Int32.toInt_inj.mp (h.trans (by decide : (4 : Int) = (4 : Int32).toInt))))))))
  · exact (Or.inr (Or.inr (Or.inr (Or.inr (Or.inr (Or.inl (Int32.toInt_inj.mp (h.trans (by decide : (5 : Int) = (5 : Int32).toInt)))))))))
  · exact (Or.inr (Or.inr (Or.inr (Or.inr (Or.inr (Or.inr (Or.inl (Int32.toInt_inj.mp (h.trans (by decide : (6 : Int) = (6 : Int32).toInt))))))))))
  · exact (Or.inr (Or.inr (Or.inr (Or.inr (Or.inr (Or.inr (Or.inr (Or.inl (Int32.toInt_inj.mp (h.trans (by decide : (7 : Int) = (7 : Int32).toInt)))))))))))
  · exact (Or.inr (Or.inr (Or.inr (Or.inr (Or.inr (Or.inr (Or.inr (Or.inr (Or.inl (Int32.toInt_inj.mp (h.trans (by decide : (8 : Int) = (8 : Int32).toInt))))))))))))
  · exact (Or.inr (Or.inr (Or.inr (Or.inr (Or.inr (Or.inr (Or.inr (Or.inr (Or.inr (Int32.toInt_inj.mp (h.trans (by decide : (9 : Int) = (9 : Int32).toInt))))))))))))
theorem cases16 {v : Int32} (h0 : 0 ≤ v.toInt) (h1 : v.toInt < 16) : v = 0 ∨ v = 1 ∨ v = 2 ∨ v = 3 ∨ v = 4 ∨ v = 5 ∨ v = 6 ∨ v = 7 ∨ v = 8 ∨ v = 9 ∨ v = 10 ∨ v = 11 ∨ v = 12 ∨ v = 13 ∨ v = 14 ∨ v = 15 := by
  have q : v.toInt = 0 ∨ v.toInt = 1 ∨ v.toInt = 2 ∨ v.toInt = 3 ∨ v.toInt = 4 ∨ v.toInt = 5 ∨ v.toInt = 6 ∨ v.toInt = 7 ∨ v.toInt = 8 ∨ v.toInt = 9 ∨ v.toInt = 10 ∨ v.toInt = 11 ∨ v.toInt = 12 ∨ v.toInt = 13 ∨ v.toInt = 14 ∨ v.toInt = 15 := by omega
  rcases q with h | h | h | h | h | h | h | h | h | h | h | h | h | h | h | h
  · exact (Or.inl (Int32.toInt_inj.mp (h.trans (by decide : (0 : Int) = (0 : Int32).toInt))))
  · exact (Or.inr (Or.inl (Int32.toInt_inj.mp (h.trans (by decide : (1 : Int) = (1 : Int32).toInt)))))
  · exact (Or.inr (Or.inr (Or.inl (Int32.toInt_inj.mp (h.trans (by decide : (2 : Int) = (2 : Int32).toInt))))))
  · exact (Or.inr (Or.inr (Or.inr (Or.inl (Int32.toInt_inj.mp (h.trans (by decide : (3 : Int) = (3 : Int32).toInt)))))))
  · exact (Or.inr (Or.inr (Or.inr (Or.inr (Or.inl (Int32.toInt_inj.mp (h.trans (by decide : (4 : Int) = (4 : Int32).toInt))))))))
  · exact (Or.inr (Or.inr (Or.inr (Or.inr (Or.inr (Or.inl (Int32.toInt_inj.mp (h.trans (by decide : (5 : Int) = (5 : Int32).toInt)))))))))
  · exact (Or.inr (Or.inr (Or.inr (Or.inr (Or.inr (Or.inr (Or.inl (Int32.toInt_inj.mp (h.trans (by decide : (6 : Int) = (6 : Int32).toInt))))))))))
  · exact (Or.inr (Or.inr (Or.inr (Or.inr (Or.inr (Or.inr (Or.inr (Or.inl (Int32.toInt_inj.mp (h.trans (by decide : (7 : Int) = (7 : Int32).toInt)))))))))))
  · exact (Or.inr (Or.inr (Or.inr (Or.inr (Or.inr (Or.inr (Or.inr (Or.inr (Or.inl (Int32.toInt_inj.mp (h.trans (by decide : (8 : Int) = (8 : Int32).toInt))))))))))))
  · exact (Or.inr (Or.inr (Or.inr (Or.inr (Or.inr (Or.inr (Or.inr (Or.inr (Or.inr (Or.inl (Int32.toInt_inj.mp (h.trans (by decide : (9 : Int) = (9 : Int32).toInt)))))))))))))
  · exact (Or.inr (Or.inr (Or.inr (Or.inr (Or.inr (Or.inr (Or.inr (Or.inr (Or.inr (Or.inr (Or.inl (Int32.toInt_inj.mp (h.trans (by decide : (10 : Int) = (10 : Int32).toInt))))))))))))))
  · exact (Or.inr (Or.inr (Or.inr (Or.inr (Or.inr (Or.inr (Or.inr (Or.inr (Or.inr (Or.inr (Or.inr (Or.inl (Int32.toInt_inj.mp (h.trans (by decide : (11 : Int) = (11 : Int32).toInt)))))))))))))))
  · exact (Or.inr (Or.inr (Or.inr (Or.inr (Or.inr (Or.inr (Or.inr (Or.inr (Or.inr (Or.inr (Or.inr (Or.inr (Or.inl (Int32.toInt_inj.mp (h.trans (by decide : (12 : Int) = (12 : Int32).toInt))))))))))))))))
  · exact (Or.inr (Or.inr (Or.inr (Or.inr (Or.inr (Or.inr (Or.inr (Or.inr (Or.inr (Or.inr (Or.inr (Or.inr (Or.inr (Or.inl (Int32.toInt_inj.mp (h.trans (by decide : (13 : Int) = (13 : Int32).toInt)))))))))))))))))
  · exact (Or.inr (Or.inr (Or.inr (Or.inr (Or.inr (Or.inr (Or.inr (Or.inr (Or.inr (Or.inr (Or.inr (Or.inr (Or.inr (Or.inr (Or.inl (Int32.toInt_inj.mp (h.trans (by decide : (14 : Int) = (14 : Int32).toInt))))))))))))))))))
  · exact (Or.inr (Or.inr (Or.inr (Or.inr (Or.inr (Or.inr (Or.inr (Or.inr (Or.inr (Or.inr (Or.inr (Or.inr (Or.inr (Or.inr (Or.inr (Int32.toInt_inj.mp (h.trans (by decide : (15 : Int) = (15 : Int32).toInt))))))))))))))))))
theorem onat {n : Nat} (h : n < 2147483648) : (Int32.ofNat n).toInt = n := Int32.toInt_ofNat_of_lt h
theorem onat_lt {n m : Nat} (hn : n < 2147483648) (hm : m < 2147483648) : (Int32.ofNat n < Int32.ofNat m) = (n < m) := by
  rw [Int32.lt_iff_toInt_lt, onat hn, onat hm]; exact propext ⟨fun h => by omega, fun h => by omega⟩
theorem onat_nn {n : Nat} (h : n < 2147483648) : (Int32.ofNat n < 0) = False := by
  have z : (0 : Int32).toInt = 0 := rfl
  rw [Int32.lt_iff_toInt_lt, onat h, z]; exact propext ⟨fun h => by omega, False.elim⟩
theorem onat_nat {n : Nat} (h : n < 2147483648) : (Int32.ofNat n).toNatClampNeg = n := by
  rw [Int32.toNatClampNeg, onat h]; rfl
theorem onat_succ (n : Nat) : Int32.ofNat n + 1 = Int32.ofNat (n + 1) := (Int32.ofNat_add n 1).symm
/-- an array of ints (or narrower): its n-th value -/
def ivs (xs : List Int32) : List Value := xs.map Value.int
theorem ivs_c {x : Int32} {xs : List Int32} : ivs (x :: xs) = .int x :: ivs xs := rfl
theorem ivs_n : ivs [] = [] := rfl
theorem ivs_len (xs : List Int32) : (ivs xs).length = xs.length := by simp [ivs]
theorem idx_at {pre suf : List Int32} {x : Int32} {f : Value → Prop} (h : pre.length < 2147483648) : idx (ivs (pre ++ x :: suf)) (Int32.ofNat pre.length) f = f (.int x) := by
  rw [idx_c, if_neg (by rw [onat_nn h]; exact id), onat_nat h]
  simp [idxN, ivs]
end Jvm.OwnKit
namespace Jvm.OwnKit
theorem a32 {x q : Int32} {c : Int} (hq : q.toInt = c) (h1 : -2 ^ 31 ≤ x.toInt + c) (h2 : x.toInt + c < 2 ^ 31) : (x + q).toInt = x.toInt + c := by subst hq; exact Jvm.Kit.i32_add h1 h2
theorem s32 {x q : Int32} {c : Int} (hq : q.toInt = c) (h1 : -2 ^ 31 ≤ x.toInt - c) (h2 : x.toInt - c < 2 ^ 31) : (x - q).toInt = x.toInt - c := by subst hq; exact Jvm.Kit.i32_sub h1 h2
theorem m32 {x q : Int32} {c : Int} (hq : q.toInt = c) (h1 : -2 ^ 31 ≤ x.toInt * c) (h2 : x.toInt * c < 2 ^ 31) : (x * q).toInt = x.toInt * c := by subst hq; exact Jvm.Kit.i32_mul h1 h2
theorem d32 {x q : Int32} {c : Int} (hq : q.toInt = c) (h1 : 0 ≤ x.toInt) (h2 : 0 < c) : (x / q).toInt = x.toInt / c := by
  subst hq; rw [Jvm.Kit.i32_div (by omega), Int.tdiv_eq_ediv_of_nonneg h1]
theorem a64 {x q : Int64} {c : Int} (hq : q.toInt = c) (h1 : -2 ^ 63 ≤ x.toInt + c) (h2 : x.toInt + c < 2 ^ 63) : (x + q).toInt = x.toInt + c := by subst hq; exact Jvm.Kit.i64_add h1 h2
theorem s64 {x q : Int64} {c : Int} (hq : q.toInt = c) (h1 : -2 ^ 63 ≤ x.toInt - c) (h2 : x.toInt - c < 2 ^ 63) : (x - q).toInt = x.toInt - c := by subst hq; exact Jvm.Kit.i64_sub h1 h2
theorem m64 {x q : Int64} {c : Int} (hq : q.toInt = c) (h1 : -2 ^ 63 ≤ x.toInt * c) (h2 : x.toInt * c < 2 ^ 63) : (x * q).toInt = x.toInt * c := by subst hq; exact Jvm.Kit.i64_mul h1 h2
theorem d64 {x q : Int64} {c : Int} (hq : q.toInt = c) (h1 : 0 ≤ x.toInt) (h2 : 0 < c) : (x / q).toInt = x.toInt / c := by
  subst hq; rw [Jvm.Kit.i64_div (by omega), Int.tdiv_eq_ediv_of_nonneg h1]
end Jvm.OwnKit
namespace Jvm.OwnKit
/-- a place of a list, by a natural index -/
theorem idx_lt {vs : List Value} {n : Nat} {v : Value} {f : Value → Prop} (h : n < 2147483648) (hv : vs[n]? = some v) : idx vs (Int32.ofNat n) f = f v := by
  rw [idx_c, if_neg (by rw [onat_nn h]; exact id), onat_nat h]
  simp [idxN, hv]
theorem idx_ig {vs : List Value} {n : Nat} {P : Prop} (h : n < 2147483648) (hv : n < vs.length) : idx vs (Int32.ofNat n) (fun _ => P) = P :=
  idx_lt h (List.getElem?_eq_getElem hv)
theorem setN_d {vs : List Value} {n : Nat} {v : Value} {f : List Value → Prop} : setN vs n v f = f (vs.set n v) := propext Iff.rfl
end Jvm.OwnKit
namespace Jvm.OwnKit
theorem ivs_set {xs : List Int32} {n : Nat} {x : Int32} : (ivs xs).set n (.int x) = ivs (xs.set n x) := by simp [ivs, List.map_set]
theorem idx_iv {xs : List Int32} {n : Nat} {P : Prop} (h : n < 2147483648) (hv : n < xs.length) : idx (ivs xs) (Int32.ofNat n) (fun _ => P) = P := idx_ig h (by rw [ivs_len]; exact hv)
theorem onat_add (n m : Nat) : Int32.ofNat n + Int32.ofNat m = Int32.ofNat (n + m) := (Int32.ofNat_add n m).symm
theorem onat_2 (n : Nat) : Int32.ofNat n + 2 = Int32.ofNat (n + 2) := (Int32.ofNat_add n 2).symm
/-- a small int is a natural -/
theorem to_onat {x : Int32} {m : Nat} (h0 : 0 ≤ x.toInt) (h1 : x.toInt < m) : ∃ n, n < m ∧ x = Int32.ofNat n := by
  have hl := x.toInt_lt
  exact ⟨x.toInt.toNat, by omega, Int32.toInt_inj.mp (by rw [onat (by omega)]; omega)⟩
end Jvm.OwnKit
namespace Jvm.OwnKit
open Sem ClassFile Op Lib Jvm.Stand Jvm.Free Jvm.LawKit Jvm.RoadKit
/-! the machine's equations, bundled -/
theorem B0 : type_of% @popI_c ∧ type_of% @popJ_c ∧ type_of% @popR_c ∧ type_of% @pop1_i ∧ type_of% @pop1_r ∧ type_of% @pop1_n ∧ type_of% @popA_r ∧ type_of% @popA_n ∧ type_of% @ldI_z ∧ type_of% @ldJ_z ∧ type_of% @ldA_z ∧ type_of% @ldA_n ∧ type_of% @ldI_s ∧ type_of% @ldJ_s ∧ type_of% @ldA_s ∧ type_of% @sto1_u ∧ type_of% @sto1_i ∧ type_of% @sto1_r ∧ type_of% @sto1_n ∧ type_of% @sto1_s ∧ type_of% @sto2_u ∧ type_of% @sto2_l ∧ type_of% @sto2_s ∧ type_of% @arr_c ∧ type_of% @arrI_z ∧ type_of% @arrI_s ∧ type_of% @obj_c ∧ type_of% @objI_z ∧ type_of% @objI_s ∧ type_of% @setL_z ∧ type_of% @setL_s ∧ type_of% @setH_z ∧ type_of% @setH_s ∧ type_of% @snoc_z ∧ type_of% @snoc_s ∧ type_of% @onLen_0 ∧ type_of% @onLen_1 ∧ type_of% @onLen_2 ∧ type_of% @onLen_3 ∧ type_of% @onLen_4 ∧ type_of% @repN_c ∧ type_of% @onSome_c ∧ type_of% @fgt_c ∧ type_of% @fst_n ∧ type_of% @fst_c := ⟨@popI_c, @popJ_c, @popR_c, @pop1_i, @pop1_r, @pop1_n, @popA_r, @popA_n, @ldI_z, @ldJ_z, @ldA_z, @ldA_n, @ldI_s, @ldJ_s, @ldA_s, @sto1_u, @sto1_i, @sto1_r, @sto1_n, @sto1_s, @sto2_u, @sto2_l, @sto2_s, @arr_c, @arrI_z, @arrI_s, @obj_c, @objI_z, @objI_s, @setL_z, @setL_s, @setH_z, @setH_s, @snoc_z, @snoc_s, @onLen_0, @onLen_1, @onLen_2, @onLen_3, @onLen_4, @repN_c, @onSome_c, @fgt_c, @fst_n, @fst_c⟩
theorem B1 : type_of% @nar_b0 ∧ type_of% @nar_b1 ∧ type_of% @nar_bb ∧ type_of% @nar_cc ∧ type_of% @cmpL_lt ∧ type_of% @cmpL_gt ∧ type_of% @cmpL_eq ∧ type_of% @i32_nl ∧ type_of% @i32_ng ∧ type_of% @i64_nl ∧ type_of% @i64_ng := ⟨@nar_b0, @nar_b1, @nar_bb, @nar_cc, @cmpL_lt, @cmpL_gt, @cmpL_eq, @i32_nl, @i32_ng, @i64_nl, @i64_ng⟩
end Jvm.OwnKit
namespace Jvm.Pilot.@@N@@
open Jvm Jvm.ClassFile Sem Op Lib Jvm.Free Jvm.Stand Jvm.LawKit Jvm.RoadKit Bundle Jvm.OwnKit Jvm.Pilot.@@N@@.Jvm.D
set_option maxRecDepth 65536
set_option maxHeartbeats 4000000
def G0 (l : Launch) (Z : State) (b : Heap) (K : Option Value → List Cel → Prop) : Cont := G code "com/example/twinsift/twinsift/cover/VarintWritePinLaw" "law" maxLocals ret room_1 tables_1 l Z b 16 128 K
def V0 (l : Launch) (Z : State) (b : Heap) (K : Option Value → List Cel → Prop) : Nat → Cont := Wn [] code [] [(13, 4294967295), (15, 128), (17, 16384), (19, 2097152), (21, 268435456)] [] [.byte] [] [] ret room_1 b.size 16 128 K (G0 l Z b K)
section Body0
variable {l : Launch} {Z : State} {b : Heap} {K : Option Value → List Cel → Prop} {q : Nat} {ls : List Slot} {st : List Value} {H : List Cel} {cN sN : Nat}
theorem r0 (q : Nat) {pc : Nat} (h : V0 l Z b K q pc ls st H cN sN) : G0 l Z b K pc ls st H cN sN := G.run q (by intro x hx; cases hx) (by intro x hx; simp only [List.mem_cons, List.not_mem_nil, or_false] at hx; rcases hx with rfl | rfl | rfl | rfl | rfl <;> first | exact List.mem_of_getElem? (i := 5) rfl | exact List.mem_of_getElem? (i := 6) rfl | exact List.mem_of_getElem? (i := 12) rfl | exact List.mem_of_getElem? (i := 13) rfl | exact List.mem_of_getElem? (i := 14) rfl) (by intro x hx; cases hx) (by intro x hx; simp only [List.mem_cons, List.not_mem_nil, or_false] at hx; rcases hx with rfl <;> first | exact List.mem_of_getElem? (i := 0) rfl) (by intro x hx; cases hx) (by intro x hx; cases hx) h
theorem z0 {pc : Nat} : V0 l Z b K 0 pc ls st H cN sN = G0 l Z b K pc ls st H cN sN := propext Iff.rfl
theorem f0_0 : at1 code 0 = some (.iload_n 1) := at1_of at_0 rfl (by decide)
theorem s0_0 : V0 l Z b K (q + 1) 0 ls st H cN sN = (ldI ls 1 fun v => V0 l Z b K q 1 ls (.int v :: st) H cN sN) := by show Wn _ _ _ _ _ _ _ _ _ _ _ _ _ _ _ (q + 1) _ _ _ _ _ _ = _; rw [wn_s (by decide), f0_0]; rfl
theorem f0_1 : at1 code 1 = some (.iconst 3) := at1_of at_1 rfl (by decide)
theorem s0_1 : V0 l Z b K (q + 1) 1 ls st H cN sN = (V0 l Z b K q 2 ls (.int 3 :: st) H cN sN) := by show Wn _ _ _ _ _ _ _ _ _ _ _ _ _ _ _ (q + 1) _ _ _ _ _ _ = _; rw [wn_s (by decide), f0_1]; rfl
theorem f0_2 : at1 code 2 = some (.iand) := at1_of at_2 rfl (by decide)
theorem s0_2 : V0 l Z b K (q + 1) 2 ls st H cN sN = (popI st fun y r => popI r fun x r => V0 l Z b K q 3 ls (.int (x &&& y) :: r) H cN sN) := by show Wn _ _ _ _ _ _ _ _ _ _ _ _ _ _ _ (q + 1) _ _ _ _ _ _ = _; rw [wn_s (by decide), f0_2]; rfl
theorem f0_3 : at1 code 3 = some (.istore_n 3) := at1_of at_3 rfl (by decide)
theorem s0_3 : V0 l Z b K (q + 1) 3 ls st H cN sN = (popI st fun v r => sto1 ls 3 (.int v) fun l' => V0 l Z b K q 4 l' r H cN sN) := by show Wn _ _ _ _ _ _ _ _ _ _ _ _ _ _ _ (q + 1) _ _ _ _ _ _ = _; rw [wn_s (by decide), f0_3]; rfl
theorem f0_4 : at1 code 4 = some (.iload_n 2) := at1_of at_4 rfl (by decide)
theorem s0_4 : V0 l Z b K (q + 1) 4 ls st H cN sN = (ldI ls 2 fun v => V0 l Z b K q 5 ls (.int v :: st) H cN sN) := by show Wn _ _ _ _ _ _ _ _ _ _ _ _ _ _ _ (q + 1) _ _ _ _ _ _ = _; rw [wn_s (by decide), f0_4]; rfl
theorem f0_5 : at1 code 5 = some (.i2b) := at1_of at_5 rfl (by decide)
theorem s0_5 : V0 l Z b K (q + 1) 5 ls st H cN sN = (popI st fun x r => V0 l Z b K q 6 ls (.int (nar .byte x) :: r) H cN sN) := by show Wn _ _ _ _ _ _ _ _ _ _ _ _ _ _ _ (q + 1) _ _ _ _ _ _ = _; rw [wn_s (by decide), f0_5]; rfl
theorem f0_6 : at1 code 6 = some (.istore 4) := at1_of at_6 rfl (by decide)
theorem s0_6 : V0 l Z b K (q + 1) 6 ls st H cN sN = (popI st fun v r => sto1 ls 4 (.int v) fun l' => V0 l Z b K q 8 l' r H cN sN) := by show Wn _ _ _ _ _ _ _ _ _ _ _ _ _ _ _ (q + 1) _ _ _ _ _ _ = _; rw [wn_s (by decide), f0_6]; rfl
theorem f0_8 : at1 code 8 = some (.bipush 10) := at1_of at_8 rfl (by decide)
theorem s0_8 : V0 l Z b K (q + 1) 8 ls st H cN sN = (V0 l Z b K q 10 ls (.int 10 :: st) H cN sN) := by show Wn _ _ _ _ _ _ _ _ _ _ _ _ _ _ _ (q + 1) _ _ _ _ _ _ = _; rw [wn_s (by decide), f0_8]; rfl
theorem f0_10 : at1 code 10 = some (.newarray .byte) := at1_of at_10 rfl (by decide)
theorem s0_10 : V0 l Z b K (q + 1) 10 ls st H cN sN = (popI st fun n r => if ¬ n < 0 ∧ .byte ∈ ([.byte] : List FieldType) ∧ n.toNatClampNeg ≤ 65536 ∧ cN + 1 ≤ room_1.cells ∧ sN + n.toNatClampNeg ≤ room_1.slots then onLen H fun i => repN n.toNatClampNeg (.int 0) fun vs => snoc H (.inl (.byte, vs)) fun H' => V0 l Z b K q 12 ls (.ref (ad b.size i) :: r) H' (cN + 1) (sN + n.toNatClampNeg) else False) := by show Wn _ _ _ _ _ _ _ _ _ _ _ _ _ _ _ (q + 1) _ _ _ _ _ _ = _; rw [wn_s (by decide), f0_10]; rfl
theorem f0_12 : at1 code 12 = some (.dup) := at1_of at_12 rfl (by decide)
theorem s0_12 : V0 l Z b K (q + 1) 12 ls st H cN sN = (pop1 st fun x r => V0 l Z b K q 13 ls (x :: x :: r) H cN sN) := by show Wn _ _ _ _ _ _ _ _ _ _ _ _ _ _ _ (q + 1) _ _ _ _ _ _ = _; rw [wn_s (by decide), f0_12]; rfl
theorem f0_13 : at1 code 13 = some (.iconst 0) := at1_of at_13 rfl (by decide)
theorem s0_13 : V0 l Z b K (q + 1) 13 ls st H cN sN = (V0 l Z b K q 14 ls (.int 0 :: st) H cN sN) := by show Wn _ _ _ _ _ _ _ _ _ _ _ _ _ _ _ (q + 1) _ _ _ _ _ _ = _; rw [wn_s (by decide), f0_13]; rfl
theorem f0_14 : at1 code 14 = some (.iload 4) := at1_of at_14 rfl (by decide)
theorem s0_14 : V0 l Z b K (q + 1) 14 ls st H cN sN = (ldI ls 4 fun v => V0 l Z b K q 16 ls (.int v :: st) H cN sN) := by show Wn _ _ _ _ _ _ _ _ _ _ _ _ _ _ _ (q + 1) _ _ _ _ _ _ = _; rw [wn_s (by decide), f0_14]; rfl
theorem f0_16 : at1 code 16 = some (.bastore) := at1_of at_16 rfl (by decide)
theorem s0_16 : V0 l Z b K (q + 1) 16 ls st H cN sN = (popI st fun x r => popI r fun j r => popR r fun a r => arr H b.size a fun i ty vs => if ty = .byte then idx vs j fun _ => setN vs j.toNatClampNeg (.int (nar .byte x)) fun vs' => setH H i (.inl (.byte, vs')) fun H' => V0 l Z b K q 17 ls r H' cN sN else False) := by show Wn _ _ _ _ _ _ _ _ _ _ _ _ _ _ _ (q + 1) _ _ _ _ _ _ = _; rw [wn_s (by decide), f0_16]; rfl
theorem f0_17 : at1 code 17 = some (.dup) := at1_of at_17 rfl (by decide)
theorem s0_17 : V0 l Z b K (q + 1) 17 ls st H cN sN = (pop1 st fun x r => V0 l Z b K q 18 ls (x :: x :: r) H cN sN) := by show Wn _ _ _ _ _ _ _ _ _ _ _ _ _ _ _ (q + 1) _ _ _ _ _ _ = _; rw [wn_s (by decide), f0_17]; rfl
theorem f0_18 : at1 code 18 = some (.iconst 1) := at1_of at_18 rfl (by decide)
theorem s0_18 : V0 l Z b K (q + 1) 18 ls st H cN sN = (V0 l Z b K q 19 ls (.int 1 :: st) H cN sN) := by show Wn _ _ _ _ _ _ _ _ _ _ _ _ _ _ _ (q + 1) _ _ _ _ _ _ = _; rw [wn_s (by decide), f0_18]; rfl
theorem f0_19 : at1 code 19 = some (.iload 4) := at1_of at_19 rfl (by decide)
theorem s0_19 : V0 l Z b K (q + 1) 19 ls st H cN sN = (ldI ls 4 fun v => V0 l Z b K q 21 ls (.int v :: st) H cN sN) := by show Wn _ _ _ _ _ _ _ _ _ _ _ _ _ _ _ (q + 1) _ _ _ _ _ _ = _; rw [wn_s (by decide), f0_19]; rfl
theorem f0_21 : at1 code 21 = some (.bastore) := at1_of at_21 rfl (by decide)
theorem s0_21 : V0 l Z b K (q + 1) 21 ls st H cN sN = (popI st fun x r => popI r fun j r => popR r fun a r => arr H b.size a fun i ty vs => if ty = .byte then idx vs j fun _ => setN vs j.toNatClampNeg (.int (nar .byte x)) fun vs' => setH H i (.inl (.byte, vs')) fun H' => V0 l Z b K q 22 ls r H' cN sN else False) := by show Wn _ _ _ _ _ _ _ _ _ _ _ _ _ _ _ (q + 1) _ _ _ _ _ _ = _; rw [wn_s (by decide), f0_21]; rfl
theorem f0_22 : at1 code 22 = some (.dup) := at1_of at_22 rfl (by decide)
theorem s0_22 : V0 l Z b K (q + 1) 22 ls st H cN sN = (pop1 st fun x r => V0 l Z b K q 23 ls (x :: x :: r) H cN sN) := by show Wn _ _ _ _ _ _ _ _ _ _ _ _ _ _ _ (q + 1) _ _ _ _ _ _ = _; rw [wn_s (by decide), f0_22]; rfl
theorem f0_23 : at1 code 23 = some (.iconst 2) := at1_of at_23 rfl (by decide)
theorem s0_23 : V0 l Z b K (q + 1) 23 ls st H cN sN = (V0 l Z b K q 24 ls (.int 2 :: st) H cN sN) := by show Wn _ _ _ _ _ _ _ _ _ _ _ _ _ _ _ (q + 1) _ _ _ _ _ _ = _; rw [wn_s (by decide), f0_23]; rfl
theorem f0_24 : at1 code 24 = some (.iload 4) := at1_of at_24 rfl (by decide)
theorem s0_24 : V0 l Z b K (q + 1) 24 ls st H cN sN = (ldI ls 4 fun v => V0 l Z b K q 26 ls (.int v :: st) H cN sN) := by show Wn _ _ _ _ _ _ _ _ _ _ _ _ _ _ _ (q + 1) _ _ _ _ _ _ = _; rw [wn_s (by decide), f0_24]; rfl
theorem f0_26 : at1 code 26 = some (.bastore) := at1_of at_26 rfl (by decide)
theorem s0_26 : V0 l Z b K (q + 1) 26 ls st H cN sN = (popI st fun x r => popI r fun j r => popR r fun a r => arr H b.size a fun i ty vs => if ty = .byte then idx vs j fun _ => setN vs j.toNatClampNeg (.int (nar .byte x)) fun vs' => setH H i (.inl (.byte, vs')) fun H' => V0 l Z b K q 27 ls r H' cN sN else False) := by show Wn _ _ _ _ _ _ _ _ _ _ _ _ _ _ _ (q + 1) _ _ _ _ _ _ = _; rw [wn_s (by decide), f0_26]; rfl
theorem f0_27 : at1 code 27 = some (.dup) := at1_of at_27 rfl (by decide)
theorem s0_27 : V0 l Z b K (q + 1) 27 ls st H cN sN = (pop1 st fun x r => V0 l Z b K q 28 ls (x :: x :: r) H cN sN) := by show Wn _ _ _ _ _ _ _ _ _ _ _ _ _ _ _ (q + 1) _ _ _ _ _ _ = _; rw [wn_s (by decide), f0_27]; rfl
theorem f0_28 : at1 code 28 = some (.iconst 3) := at1_of at_28 rfl (by decide)
theorem s0_28 : V0 l Z b K (q + 1) 28 ls st H cN sN = (V0 l Z b K q 29 ls (.int 3 :: st) H cN sN) := by show Wn _ _ _ _ _ _ _ _ _ _ _ _ _ _ _ (q + 1) _ _ _ _ _ _ = _; rw [wn_s (by decide), f0_28]; rfl
theorem f0_29 : at1 code 29 = some (.iload 4) := at1_of at_29 rfl (by decide)
theorem s0_29 : V0 l Z b K (q + 1) 29 ls st H cN sN = (ldI ls 4 fun v => V0 l Z b K q 31 ls (.int v :: st) H cN sN) := by show Wn _ _ _ _ _ _ _ _ _ _ _ _ _ _ _ (q + 1) _ _ _ _ _ _ = _; rw [wn_s (by decide), f0_29]; rfl
theorem f0_31 : at1 code 31 = some (.bastore) := at1_of at_31 rfl (by decide)
theorem s0_31 : V0 l Z b K (q + 1) 31 ls st H cN sN = (popI st fun x r => popI r fun j r => popR r fun a r => arr H b.size a fun i ty vs => if ty = .byte then idx vs j fun _ => setN vs j.toNatClampNeg (.int (nar .byte x)) fun vs' => setH H i (.inl (.byte, vs')) fun H' => V0 l Z b K q 32 ls r H' cN sN else False) := by show Wn _ _ _ _ _ _ _ _ _ _ _ _ _ _ _ (q + 1) _ _ _ _ _ _ = _; rw [wn_s (by decide), f0_31]; rfl
theorem f0_32 : at1 code 32 = some (.dup) := at1_of at_32 rfl (by decide)
theorem s0_32 : V0 l Z b K (q + 1) 32 ls st H cN sN = (pop1 st fun x r => V0 l Z b K q 33 ls (x :: x :: r) H cN sN) := by show Wn _ _ _ _ _ _ _ _ _ _ _ _ _ _ _ (q + 1) _ _ _ _ _ _ = _; rw [wn_s (by decide), f0_32]; rfl
theorem f0_33 : at1 code 33 = some (.iconst 4) := at1_of at_33 rfl (by decide)
theorem s0_33 : V0 l Z b K (q + 1) 33 ls st H cN sN = (V0 l Z b K q 34 ls (.int 4 :: st) H cN sN) := by show Wn _ _ _ _ _ _ _ _ _ _ _ _ _ _ _ (q + 1) _ _ _ _ _ _ = _; rw [wn_s (by decide), f0_33]; rfl
theorem f0_34 : at1 code 34 = some (.iload 4) := at1_of at_34 rfl (by decide)
theorem s0_34 : V0 l Z b K (q + 1) 34 ls st H cN sN = (ldI ls 4 fun v => V0 l Z b K q 36 ls (.int v :: st) H cN sN) := by show Wn _ _ _ _ _ _ _ _ _ _ _ _ _ _ _ (q + 1) _ _ _ _ _ _ = _; rw [wn_s (by decide), f0_34]; rfl
theorem f0_36 : at1 code 36 = some (.bastore) := at1_of at_36 rfl (by decide)
theorem s0_36 : V0 l Z b K (q + 1) 36 ls st H cN sN = (popI st fun x r => popI r fun j r => popR r fun a r => arr H b.size a fun i ty vs => if ty = .byte then idx vs j fun _ => setN vs j.toNatClampNeg (.int (nar .byte x)) fun vs' => setH H i (.inl (.byte, vs')) fun H' => V0 l Z b K q 37 ls r H' cN sN else False) := by show Wn _ _ _ _ _ _ _ _ _ _ _ _ _ _ _ (q + 1) _ _ _ _ _ _ = _; rw [wn_s (by decide), f0_36]; rfl
theorem f0_37 : at1 code 37 = some (.dup) := at1_of at_37 rfl (by decide)
theorem s0_37 : V0 l Z b K (q + 1) 37 ls st H cN sN = (pop1 st fun x r => V0 l Z b K q 38 ls (x :: x :: r) H cN sN) := by show Wn _ _ _ _ _ _ _ _ _ _ _ _ _ _ _ (q + 1) _ _ _ _ _ _ = _; rw [wn_s (by decide), f0_37]; rfl
theorem f0_38 : at1 code 38 = some (.iconst 5) := at1_of at_38 rfl (by decide)
theorem s0_38 : V0 l Z b K (q + 1) 38 ls st H cN sN = (V0 l Z b K q 39 ls (.int 5 :: st) H cN sN) := by show Wn _ _ _ _ _ _ _ _ _ _ _ _ _ _ _ (q + 1) _ _ _ _ _ _ = _; rw [wn_s (by decide), f0_38]; rfl
theorem f0_39 : at1 code 39 = some (.iload 4) := at1_of at_39 rfl (by decide)
theorem s0_39 : V0 l Z b K (q + 1) 39 ls st H cN sN = (ldI ls 4 fun v => V0 l Z b K q 41 ls (.int v :: st) H cN sN) := by show Wn _ _ _ _ _ _ _ _ _ _ _ _ _ _ _ (q + 1) _ _ _ _ _ _ = _; rw [wn_s (by decide), f0_39]; rfl
theorem f0_41 : at1 code 41 = some (.bastore) := at1_of at_41 rfl (by decide)
theorem s0_41 : V0 l Z b K (q + 1) 41 ls st H cN sN = (popI st fun x r => popI r fun j r => popR r fun a r => arr H b.size a fun i ty vs => if ty = .byte then idx vs j fun _ => setN vs j.toNatClampNeg (.int (nar .byte x)) fun vs' => setH H i (.inl (.byte, vs')) fun H' => V0 l Z b K q 42 ls r H' cN sN else False) := by show Wn _ _ _ _ _ _ _ _ _ _ _ _ _ _ _ (q + 1) _ _ _ _ _ _ = _; rw [wn_s (by decide), f0_41]; rfl
theorem f0_42 : at1 code 42 = some (.dup) := at1_of at_42 rfl (by decide)
theorem s0_42 : V0 l Z b K (q + 1) 42 ls st H cN sN = (pop1 st fun x r => V0 l Z b K q 43 ls (x :: x :: r) H cN sN) := by show Wn _ _ _ _ _ _ _ _ _ _ _ _ _ _ _ (q + 1) _ _ _ _ _ _ = _; rw [wn_s (by decide), f0_42]; rfl
theorem f0_43 : at1 code 43 = some (.bipush 6) := at1_of at_43 rfl (by decide)
theorem s0_43 : V0 l Z b K (q + 1) 43 ls st H cN sN = (V0 l Z b K q 45 ls (.int 6 :: st) H cN sN) := by show Wn _ _ _ _ _ _ _ _ _ _ _ _ _ _ _ (q + 1) _ _ _ _ _ _ = _; rw [wn_s (by decide), f0_43]; rfl
theorem f0_45 : at1 code 45 = some (.iload 4) := at1_of at_45 rfl (by decide)
theorem s0_45 : V0 l Z b K (q + 1) 45 ls st H cN sN = (ldI ls 4 fun v => V0 l Z b K q 47 ls (.int v :: st) H cN sN) := by show Wn _ _ _ _ _ _ _ _ _ _ _ _ _ _ _ (q + 1) _ _ _ _ _ _ = _; rw [wn_s (by decide), f0_45]; rfl
theorem f0_47 : at1 code 47 = some (.bastore) := at1_of at_47 rfl (by decide)
theorem s0_47 : V0 l Z b K (q + 1) 47 ls st H cN sN = (popI st fun x r => popI r fun j r => popR r fun a r => arr H b.size a fun i ty vs => if ty = .byte then idx vs j fun _ => setN vs j.toNatClampNeg (.int (nar .byte x)) fun vs' => setH H i (.inl (.byte, vs')) fun H' => V0 l Z b K q 48 ls r H' cN sN else False) := by show Wn _ _ _ _ _ _ _ _ _ _ _ _ _ _ _ (q + 1) _ _ _ _ _ _ = _; rw [wn_s (by decide), f0_47]; rfl
theorem f0_48 : at1 code 48 = some (.dup) := at1_of at_48 rfl (by decide)
theorem s0_48 : V0 l Z b K (q + 1) 48 ls st H cN sN = (pop1 st fun x r => V0 l Z b K q 49 ls (x :: x :: r) H cN sN) := by show Wn _ _ _ _ _ _ _ _ _ _ _ _ _ _ _ (q + 1) _ _ _ _ _ _ = _; rw [wn_s (by decide), f0_48]; rfl
theorem f0_49 : at1 code 49 = some (.bipush 7) := at1_of at_49 rfl (by decide)
theorem s0_49 : V0 l Z b K (q + 1) 49 ls st H cN sN = (V0 l Z b K q 51 ls (.int 7 :: st) H cN sN) := by show Wn _ _ _ _ _ _ _ _ _ _ _ _ _ _ _ (q + 1) _ _ _ _ _ _ = _; rw [wn_s (by decide), f0_49]; rfl
theorem f0_51 : at1 code 51 = some (.iload 4) := at1_of at_51 rfl (by decide)
theorem s0_51 : V0 l Z b K (q + 1) 51 ls st H cN sN = (ldI ls 4 fun v => V0 l Z b K q 53 ls (.int v :: st) H cN sN) := by show Wn _ _ _ _ _ _ _ _ _ _ _ _ _ _ _ (q + 1) _ _ _ _ _ _ = _; rw [wn_s (by decide), f0_51]; rfl
theorem f0_53 : at1 code 53 = some (.bastore) := at1_of at_53 rfl (by decide)
theorem s0_53 : V0 l Z b K (q + 1) 53 ls st H cN sN = (popI st fun x r => popI r fun j r => popR r fun a r => arr H b.size a fun i ty vs => if ty = .byte then idx vs j fun _ => setN vs j.toNatClampNeg (.int (nar .byte x)) fun vs' => setH H i (.inl (.byte, vs')) fun H' => V0 l Z b K q 54 ls r H' cN sN else False) := by show Wn _ _ _ _ _ _ _ _ _ _ _ _ _ _ _ (q + 1) _ _ _ _ _ _ = _; rw [wn_s (by decide), f0_53]; rfl
theorem f0_54 : at1 code 54 = some (.dup) := at1_of at_54 rfl (by decide)
theorem s0_54 : V0 l Z b K (q + 1) 54 ls st H cN sN = (pop1 st fun x r => V0 l Z b K q 55 ls (x :: x :: r) H cN sN) := by show Wn _ _ _ _ _ _ _ _ _ _ _ _ _ _ _ (q + 1) _ _ _ _ _ _ = _; rw [wn_s (by decide), f0_54]; rfl
theorem f0_55 : at1 code 55 = some (.bipush 8) := at1_of at_55 rfl (by decide)
theorem s0_55 : V0 l Z b K (q + 1) 55 ls st H cN sN = (V0 l Z b K q 57 ls (.int 8 :: st) H cN sN) := by show Wn _ _ _ _ _ _ _ _ _ _ _ _ _ _ _ (q + 1) _ _ _ _ _ _ = _; rw [wn_s (by decide), f0_55]; rfl
theorem f0_57 : at1 code 57 = some (.iload 4) := at1_of at_57 rfl (by decide)
theorem s0_57 : V0 l Z b K (q + 1) 57 ls st H cN sN = (ldI ls 4 fun v => V0 l Z b K q 59 ls (.int v :: st) H cN sN) := by show Wn _ _ _ _ _ _ _ _ _ _ _ _ _ _ _ (q + 1) _ _ _ _ _ _ = _; rw [wn_s (by decide), f0_57]; rfl
theorem f0_59 : at1 code 59 = some (.bastore) := at1_of at_59 rfl (by decide)
theorem s0_59 : V0 l Z b K (q + 1) 59 ls st H cN sN = (popI st fun x r => popI r fun j r => popR r fun a r => arr H b.size a fun i ty vs => if ty = .byte then idx vs j fun _ => setN vs j.toNatClampNeg (.int (nar .byte x)) fun vs' => setH H i (.inl (.byte, vs')) fun H' => V0 l Z b K q 60 ls r H' cN sN else False) := by show Wn _ _ _ _ _ _ _ _ _ _ _ _ _ _ _ (q + 1) _ _ _ _ _ _ = _; rw [wn_s (by decide), f0_59]; rfl
theorem f0_60 : at1 code 60 = some (.dup) := at1_of at_60 rfl (by decide)
theorem s0_60 : V0 l Z b K (q + 1) 60 ls st H cN sN = (pop1 st fun x r => V0 l Z b K q 61 ls (x :: x :: r) H cN sN) := by show Wn _ _ _ _ _ _ _ _ _ _ _ _ _ _ _ (q + 1) _ _ _ _ _ _ = _; rw [wn_s (by decide), f0_60]; rfl
theorem f0_61 : at1 code 61 = some (.bipush 9) := at1_of at_61 rfl (by decide)
theorem s0_61 : V0 l Z b K (q + 1) 61 ls st H cN sN = (V0 l Z b K q 63 ls (.int 9 :: st) H cN sN) := by show Wn _ _ _ _ _ _ _ _ _ _ _ _ _ _ _ (q + 1) _ _ _ _ _ _ = _; rw [wn_s (by decide), f0_61]; rfl
theorem f0_63 : at1 code 63 = some (.iload 4) := at1_of at_63 rfl (by decide)
theorem s0_63 : V0 l Z b K (q + 1) 63 ls st H cN sN = (ldI ls 4 fun v => V0 l Z b K q 65 ls (.int v :: st) H cN sN) := by show Wn _ _ _ _ _ _ _ _ _ _ _ _ _ _ _ (q + 1) _ _ _ _ _ _ = _; rw [wn_s (by decide), f0_63]; rfl
theorem f0_65 : at1 code 65 = some (.bastore) := at1_of at_65 rfl (by decide)
theorem s0_65 : V0 l Z b K (q + 1) 65 ls st H cN sN = (popI st fun x r => popI r fun j r => popR r fun a r => arr H b.size a fun i ty vs => if ty = .byte then idx vs j fun _ => setN vs j.toNatClampNeg (.int (nar .byte x)) fun vs' => setH H i (.inl (.byte, vs')) fun H' => V0 l Z b K q 66 ls r H' cN sN else False) := by show Wn _ _ _ _ _ _ _ _ _ _ _ _ _ _ _ (q + 1) _ _ _ _ _ _ = _; rw [wn_s (by decide), f0_65]; rfl
theorem f0_66 : at1 code 66 = some (.astore 5) := at1_of at_66 rfl (by decide)
theorem s0_66 : V0 l Z b K (q + 1) 66 ls st H cN sN = (popA st fun v r => sto1 ls 5 v fun l' => V0 l Z b K q 68 l' r H cN sN) := by show Wn _ _ _ _ _ _ _ _ _ _ _ _ _ _ _ (q + 1) _ _ _ _ _ _ = _; rw [wn_s (by decide), f0_66]; rfl
theorem f0_68 : at1 code 68 = some (.aload 5) := at1_of at_68 rfl (by decide)
theorem s0_68 : V0 l Z b K (q + 1) 68 ls st H cN sN = (ldA ls 5 fun v => V0 l Z b K q 70 ls (v :: st) H cN sN) := by show Wn _ _ _ _ _ _ _ _ _ _ _ _ _ _ _ (q + 1) _ _ _ _ _ _ = _; rw [wn_s (by decide), f0_68]; rfl
theorem f0_70 : at1 code 70 = some (.iload_n 3) := at1_of at_70 rfl (by decide)
theorem s0_70 : V0 l Z b K (q + 1) 70 ls st H cN sN = (ldI ls 3 fun v => V0 l Z b K q 71 ls (.int v :: st) H cN sN) := by show Wn _ _ _ _ _ _ _ _ _ _ _ _ _ _ _ (q + 1) _ _ _ _ _ _ = _; rw [wn_s (by decide), f0_70]; rfl
theorem f0_71 : at1 code 71 = some (.iload_n 0) := at1_of at_71 rfl (by decide)
theorem s0_71 : V0 l Z b K (q + 1) 71 ls st H cN sN = (ldI ls 0 fun v => V0 l Z b K q 72 ls (.int v :: st) H cN sN) := by show Wn _ _ _ _ _ _ _ _ _ _ _ _ _ _ _ (q + 1) _ _ _ _ _ _ = _; rw [wn_s (by decide), f0_71]; rfl
theorem f0_72 : at1 code 72 = some (.invokestatic 7) := at1_of at_72 rfl (by decide)
theorem s0_72 : V0 l Z b K (q + 1) 72 ls st H cN sN = (G0 l Z b K 72 ls st H cN sN) := by show Wn _ _ _ _ _ _ _ _ _ _ _ _ _ _ _ (q + 1) _ _ _ _ _ _ = _; rw [wn_s (by decide), f0_72]; rfl
theorem f0_75 : at1 code 75 = some (.istore 6) := at1_of at_75 rfl (by decide)
theorem s0_75 : V0 l Z b K (q + 1) 75 ls st H cN sN = (popI st fun v r => sto1 ls 6 (.int v) fun l' => V0 l Z b K q 77 l' r H cN sN) := by show Wn _ _ _ _ _ _ _ _ _ _ _ _ _ _ _ (q + 1) _ _ _ _ _ _ = _; rw [wn_s (by decide), f0_75]; rfl
theorem f0_77 : at1 code 77 = some (.iload_n 0) := at1_of at_77 rfl (by decide)
theorem s0_77 : V0 l Z b K (q + 1) 77 ls st H cN sN = (ldI ls 0 fun v => V0 l Z b K q 78 ls (.int v :: st) H cN sN) := by show Wn _ _ _ _ _ _ _ _ _ _ _ _ _ _ _ (q + 1) _ _ _ _ _ _ = _; rw [wn_s (by decide), f0_77]; rfl
theorem f0_78 : at1 code 78 = some (.i2l) := at1_of at_78 rfl (by decide)
theorem s0_78 : V0 l Z b K (q + 1) 78 ls st H cN sN = (popI st fun x r => V0 l Z b K q 79 ls (.long (x.toInt64) :: r) H cN sN) := by show Wn _ _ _ _ _ _ _ _ _ _ _ _ _ _ _ (q + 1) _ _ _ _ _ _ = _; rw [wn_s (by decide), f0_78]; rfl
theorem f0_79 : at1 code 79 = some (.ldc2_w 13) := at1_of at_79 rfl (by decide)
theorem s0_79 : V0 l Z b K (q + 1) 79 ls st H cN sN = (V0 l Z b K q 82 ls (.long 4294967295 :: st) H cN sN) := by show Wn _ _ _ _ _ _ _ _ _ _ _ _ _ _ _ (q + 1) _ _ _ _ _ _ = _; rw [wn_s (by decide), f0_79]; rfl
theorem f0_82 : at1 code 82 = some (.land) := at1_of at_82 rfl (by decide)
theorem s0_82 : V0 l Z b K (q + 1) 82 ls st H cN sN = (popJ st fun y r => popJ r fun x r => V0 l Z b K q 83 ls (.long (x &&& y) :: r) H cN sN) := by show Wn _ _ _ _ _ _ _ _ _ _ _ _ _ _ _ (q + 1) _ _ _ _ _ _ = _; rw [wn_s (by decide), f0_82]; rfl
theorem f0_83 : at1 code 83 = some (.lstore 7) := at1_of at_83 rfl (by decide)
theorem s0_83 : V0 l Z b K (q + 1) 83 ls st H cN sN = (popJ st fun v r => sto2 ls 7 (.long v) fun l' => V0 l Z b K q 85 l' r H cN sN) := by show Wn _ _ _ _ _ _ _ _ _ _ _ _ _ _ _ (q + 1) _ _ _ _ _ _ = _; rw [wn_s (by decide), f0_83]; rfl
theorem f0_85 : at1 code 85 = some (.lload 7) := at1_of at_85 rfl (by decide)
theorem s0_85 : V0 l Z b K (q + 1) 85 ls st H cN sN = (ldJ ls 7 fun v => V0 l Z b K q 87 ls (.long v :: st) H cN sN) := by show Wn _ _ _ _ _ _ _ _ _ _ _ _ _ _ _ (q + 1) _ _ _ _ _ _ = _; rw [wn_s (by decide), f0_85]; rfl
theorem f0_87 : at1 code 87 = some (.ldc2_w 15) := at1_of at_87 rfl (by decide)
theorem s0_87 : V0 l Z b K (q + 1) 87 ls st H cN sN = (V0 l Z b K q 90 ls (.long 128 :: st) H cN sN) := by show Wn _ _ _ _ _ _ _ _ _ _ _ _ _ _ _ (q + 1) _ _ _ _ _ _ = _; rw [wn_s (by decide), f0_87]; rfl
theorem f0_90 : at1 code 90 = some (.lcmp) := at1_of at_90 rfl (by decide)
theorem s0_90 : V0 l Z b K (q + 1) 90 ls st H cN sN = (popJ st fun y r => popJ r fun x r => V0 l Z b K q 91 ls (.int (XT.cmpL x y) :: r) H cN sN) := by show Wn _ _ _ _ _ _ _ _ _ _ _ _ _ _ _ (q + 1) _ _ _ _ _ _ = _; rw [wn_s (by decide), f0_90]; rfl
theorem f0_91 : at1 code 91 = some (.ifCond .ge 9) := at1_of at_91 rfl (by decide)
theorem s0_91 : V0 l Z b K (q + 1) 91 ls st H cN sN = (popI st fun x r => if x < 0 then V0 l Z b K q 94 ls r H cN sN else V0 l Z b K q 100 ls r H cN sN) := by show Wn _ _ _ _ _ _ _ _ _ _ _ _ _ _ _ (q + 1) _ _ _ _ _ _ = _; rw [wn_s (by decide), f0_91]; rfl
theorem f0_94 : at1 code 94 = some (.iconst 1) := at1_of at_94 rfl (by decide)
theorem s0_94 : V0 l Z b K (q + 1) 94 ls st H cN sN = (V0 l Z b K q 95 ls (.int 1 :: st) H cN sN) := by show Wn _ _ _ _ _ _ _ _ _ _ _ _ _ _ _ (q + 1) _ _ _ _ _ _ = _; rw [wn_s (by decide), f0_94]; rfl
theorem f0_95 : at1 code 95 = some (.istore 9) := at1_of at_95 rfl (by decide)
theorem s0_95 : V0 l Z b K (q + 1) 95 ls st H cN sN = (popI st fun v r => sto1 ls 9 (.int v) fun l' => V0 l Z b K q 97 l' r H cN sN) := by show Wn _ _ _ _ _ _ _ _ _ _ _ _ _ _ _ (q + 1) _ _ _ _ _ _ = _; rw [wn_s (by decide), f0_95]; rfl
theorem f0_97 : at1 code 97 = some (.goto 51) := at1_of at_97 rfl (by decide)
theorem s0_97 : V0 l Z b K (q + 1) 97 ls st H cN sN = (V0 l Z b K q 148 ls st H cN sN) := by show Wn _ _ _ _ _ _ _ _ _ _ _ _ _ _ _ (q + 1) _ _ _ _ _ _ = _; rw [wn_s (by decide), f0_97]; rfl
theorem f0_100 : at1 code 100 = some (.lload 7) := at1_of at_100 rfl (by decide)
theorem s0_100 : V0 l Z b K (q + 1) 100 ls st H cN sN = (ldJ ls 7 fun v => V0 l Z b K q 102 ls (.long v :: st) H cN sN) := by show Wn _ _ _ _ _ _ _ _ _ _ _ _ _ _ _ (q + 1) _ _ _ _ _ _ = _; rw [wn_s (by decide), f0_100]; rfl
theorem f0_102 : at1 code 102 = some (.ldc2_w 17) := at1_of at_102 rfl (by decide)
theorem s0_102 : V0 l Z b K (q + 1) 102 ls st H cN sN = (V0 l Z b K q 105 ls (.long 16384 :: st) H cN sN) := by show Wn _ _ _ _ _ _ _ _ _ _ _ _ _ _ _ (q + 1) _ _ _ _ _ _ = _; rw [wn_s (by decide), f0_102]; rfl
theorem f0_105 : at1 code 105 = some (.lcmp) := at1_of at_105 rfl (by decide)
theorem s0_105 : V0 l Z b K (q + 1) 105 ls st H cN sN = (popJ st fun y r => popJ r fun x r => V0 l Z b K q 106 ls (.int (XT.cmpL x y) :: r) H cN sN) := by show Wn _ _ _ _ _ _ _ _ _ _ _ _ _ _ _ (q + 1) _ _ _ _ _ _ = _; rw [wn_s (by decide), f0_105]; rfl
theorem f0_106 : at1 code 106 = some (.ifCond .ge 9) := at1_of at_106 rfl (by decide)
theorem s0_106 : V0 l Z b K (q + 1) 106 ls st H cN sN = (popI st fun x r => if x < 0 then V0 l Z b K q 109 ls r H cN sN else V0 l Z b K q 115 ls r H cN sN) := by show Wn _ _ _ _ _ _ _ _ _ _ _ _ _ _ _ (q + 1) _ _ _ _ _ _ = _; rw [wn_s (by decide), f0_106]; rfl
theorem f0_109 : at1 code 109 = some (.iconst 2) := at1_of at_109 rfl (by decide)
theorem s0_109 : V0 l Z b K (q + 1) 109 ls st H cN sN = (V0 l Z b K q 110 ls (.int 2 :: st) H cN sN) := by show Wn _ _ _ _ _ _ _ _ _ _ _ _ _ _ _ (q + 1) _ _ _ _ _ _ = _; rw [wn_s (by decide), f0_109]; rfl
theorem f0_110 : at1 code 110 = some (.istore 9) := at1_of at_110 rfl (by decide)
theorem s0_110 : V0 l Z b K (q + 1) 110 ls st H cN sN = (popI st fun v r => sto1 ls 9 (.int v) fun l' => V0 l Z b K q 112 l' r H cN sN) := by show Wn _ _ _ _ _ _ _ _ _ _ _ _ _ _ _ (q + 1) _ _ _ _ _ _ = _; rw [wn_s (by decide), f0_110]; rfl
theorem f0_112 : at1 code 112 = some (.goto 36) := at1_of at_112 rfl (by decide)
theorem s0_112 : V0 l Z b K (q + 1) 112 ls st H cN sN = (V0 l Z b K q 148 ls st H cN sN) := by show Wn _ _ _ _ _ _ _ _ _ _ _ _ _ _ _ (q + 1) _ _ _ _ _ _ = _; rw [wn_s (by decide), f0_112]; rfl
theorem f0_115 : at1 code 115 = some (.lload 7) := at1_of at_115 rfl (by decide)
theorem s0_115 : V0 l Z b K (q + 1) 115 ls st H cN sN = (ldJ ls 7 fun v => V0 l Z b K q 117 ls (.long v :: st) H cN sN) := by show Wn _ _ _ _ _ _ _ _ _ _ _ _ _ _ _ (q + 1) _ _ _ _ _ _ = _; rw [wn_s (by decide), f0_115]; rfl
theorem f0_117 : at1 code 117 = some (.ldc2_w 19) := at1_of at_117 rfl (by decide)
theorem s0_117 : V0 l Z b K (q + 1) 117 ls st H cN sN = (V0 l Z b K q 120 ls (.long 2097152 :: st) H cN sN) := by show Wn _ _ _ _ _ _ _ _ _ _ _ _ _ _ _ (q + 1) _ _ _ _ _ _ = _; rw [wn_s (by decide), f0_117]; rfl
theorem f0_120 : at1 code 120 = some (.lcmp) := at1_of at_120 rfl (by decide)
theorem s0_120 : V0 l Z b K (q + 1) 120 ls st H cN sN = (popJ st fun y r => popJ r fun x r => V0 l Z b K q 121 ls (.int (XT.cmpL x y) :: r) H cN sN) := by show Wn _ _ _ _ _ _ _ _ _ _ _ _ _ _ _ (q + 1) _ _ _ _ _ _ = _; rw [wn_s (by decide), f0_120]; rfl
theorem f0_121 : at1 code 121 = some (.ifCond .ge 9) := at1_of at_121 rfl (by decide)
theorem s0_121 : V0 l Z b K (q + 1) 121 ls st H cN sN = (popI st fun x r => if x < 0 then V0 l Z b K q 124 ls r H cN sN else V0 l Z b K q 130 ls r H cN sN) := by show Wn _ _ _ _ _ _ _ _ _ _ _ _ _ _ _ (q + 1) _ _ _ _ _ _ = _; rw [wn_s (by decide), f0_121]; rfl
theorem f0_124 : at1 code 124 = some (.iconst 3) := at1_of at_124 rfl (by decide)
theorem s0_124 : V0 l Z b K (q + 1) 124 ls st H cN sN = (V0 l Z b K q 125 ls (.int 3 :: st) H cN sN) := by show Wn _ _ _ _ _ _ _ _ _ _ _ _ _ _ _ (q + 1) _ _ _ _ _ _ = _; rw [wn_s (by decide), f0_124]; rfl
theorem f0_125 : at1 code 125 = some (.istore 9) := at1_of at_125 rfl (by decide)
theorem s0_125 : V0 l Z b K (q + 1) 125 ls st H cN sN = (popI st fun v r => sto1 ls 9 (.int v) fun l' => V0 l Z b K q 127 l' r H cN sN) := by show Wn _ _ _ _ _ _ _ _ _ _ _ _ _ _ _ (q + 1) _ _ _ _ _ _ = _; rw [wn_s (by decide), f0_125]; rfl
theorem f0_127 : at1 code 127 = some (.goto 21) := at1_of at_127 rfl (by decide)
theorem s0_127 : V0 l Z b K (q + 1) 127 ls st H cN sN = (V0 l Z b K q 148 ls st H cN sN) := by show Wn _ _ _ _ _ _ _ _ _ _ _ _ _ _ _ (q + 1) _ _ _ _ _ _ = _; rw [wn_s (by decide), f0_127]; rfl
theorem f0_130 : at1 code 130 = some (.lload 7) := at1_of at_130 rfl (by decide)
theorem s0_130 : V0 l Z b K (q + 1) 130 ls st H cN sN = (ldJ ls 7 fun v => V0 l Z b K q 132 ls (.long v :: st) H cN sN) := by show Wn _ _ _ _ _ _ _ _ _ _ _ _ _ _ _ (q + 1) _ _ _ _ _ _ = _; rw [wn_s (by decide), f0_130]; rfl
theorem f0_132 : at1 code 132 = some (.ldc2_w 21) := at1_of at_132 rfl (by decide)
theorem s0_132 : V0 l Z b K (q + 1) 132 ls st H cN sN = (V0 l Z b K q 135 ls (.long 268435456 :: st) H cN sN) := by show Wn _ _ _ _ _ _ _ _ _ _ _ _ _ _ _ (q + 1) _ _ _ _ _ _ = _; rw [wn_s (by decide), f0_132]; rfl
theorem f0_135 : at1 code 135 = some (.lcmp) := at1_of at_135 rfl (by decide)
theorem s0_135 : V0 l Z b K (q + 1) 135 ls st H cN sN = (popJ st fun y r => popJ r fun x r => V0 l Z b K q 136 ls (.int (XT.cmpL x y) :: r) H cN sN) := by show Wn _ _ _ _ _ _ _ _ _ _ _ _ _ _ _ (q + 1) _ _ _ _ _ _ = _; rw [wn_s (by decide), f0_135]; rfl
theorem f0_136 : at1 code 136 = some (.ifCond .ge 9) := at1_of at_136 rfl (by decide)
theorem s0_136 : V0 l Z b K (q + 1) 136 ls st H cN sN = (popI st fun x r => if x < 0 then V0 l Z b K q 139 ls r H cN sN else V0 l Z b K q 145 ls r H cN sN) := by show Wn _ _ _ _ _ _ _ _ _ _ _ _ _ _ _ (q + 1) _ _ _ _ _ _ = _; rw [wn_s (by decide), f0_136]; rfl
theorem f0_139 : at1 code 139 = some (.iconst 4) := at1_of at_139 rfl (by decide)
theorem s0_139 : V0 l Z b K (q + 1) 139 ls st H cN sN = (V0 l Z b K q 140 ls (.int 4 :: st) H cN sN) := by show Wn _ _ _ _ _ _ _ _ _ _ _ _ _ _ _ (q + 1) _ _ _ _ _ _ = _; rw [wn_s (by decide), f0_139]; rfl
theorem f0_140 : at1 code 140 = some (.istore 9) := at1_of at_140 rfl (by decide)
theorem s0_140 : V0 l Z b K (q + 1) 140 ls st H cN sN = (popI st fun v r => sto1 ls 9 (.int v) fun l' => V0 l Z b K q 142 l' r H cN sN) := by show Wn _ _ _ _ _ _ _ _ _ _ _ _ _ _ _ (q + 1) _ _ _ _ _ _ = _; rw [wn_s (by decide), f0_140]; rfl
theorem f0_142 : at1 code 142 = some (.goto 6) := at1_of at_142 rfl (by decide)
theorem s0_142 : V0 l Z b K (q + 1) 142 ls st H cN sN = (V0 l Z b K q 148 ls st H cN sN) := by show Wn _ _ _ _ _ _ _ _ _ _ _ _ _ _ _ (q + 1) _ _ _ _ _ _ = _; rw [wn_s (by decide), f0_142]; rfl
theorem f0_145 : at1 code 145 = some (.iconst 5) := at1_of at_145 rfl (by decide)
theorem s0_145 : V0 l Z b K (q + 1) 145 ls st H cN sN = (V0 l Z b K q 146 ls (.int 5 :: st) H cN sN) := by show Wn _ _ _ _ _ _ _ _ _ _ _ _ _ _ _ (q + 1) _ _ _ _ _ _ = _; rw [wn_s (by decide), f0_145]; rfl
theorem f0_146 : at1 code 146 = some (.istore 9) := at1_of at_146 rfl (by decide)
theorem s0_146 : V0 l Z b K (q + 1) 146 ls st H cN sN = (popI st fun v r => sto1 ls 9 (.int v) fun l' => V0 l Z b K q 148 l' r H cN sN) := by show Wn _ _ _ _ _ _ _ _ _ _ _ _ _ _ _ (q + 1) _ _ _ _ _ _ = _; rw [wn_s (by decide), f0_146]; rfl
theorem f0_148 : at1 code 148 = some (.iload 6) := at1_of at_148 rfl (by decide)
theorem s0_148 : V0 l Z b K (q + 1) 148 ls st H cN sN = (ldI ls 6 fun v => V0 l Z b K q 150 ls (.int v :: st) H cN sN) := by show Wn _ _ _ _ _ _ _ _ _ _ _ _ _ _ _ (q + 1) _ _ _ _ _ _ = _; rw [wn_s (by decide), f0_148]; rfl
theorem f0_150 : at1 code 150 = some (.iload_n 3) := at1_of at_150 rfl (by decide)
theorem s0_150 : V0 l Z b K (q + 1) 150 ls st H cN sN = (ldI ls 3 fun v => V0 l Z b K q 151 ls (.int v :: st) H cN sN) := by show Wn _ _ _ _ _ _ _ _ _ _ _ _ _ _ _ (q + 1) _ _ _ _ _ _ = _; rw [wn_s (by decide), f0_150]; rfl
theorem f0_151 : at1 code 151 = some (.iload 9) := at1_of at_151 rfl (by decide)
theorem s0_151 : V0 l Z b K (q + 1) 151 ls st H cN sN = (ldI ls 9 fun v => V0 l Z b K q 153 ls (.int v :: st) H cN sN) := by show Wn _ _ _ _ _ _ _ _ _ _ _ _ _ _ _ (q + 1) _ _ _ _ _ _ = _; rw [wn_s (by decide), f0_151]; rfl
theorem f0_153 : at1 code 153 = some (.iadd) := at1_of at_153 rfl (by decide)
theorem s0_153 : V0 l Z b K (q + 1) 153 ls st H cN sN = (popI st fun y r => popI r fun x r => V0 l Z b K q 154 ls (.int (x + y) :: r) H cN sN) := by show Wn _ _ _ _ _ _ _ _ _ _ _ _ _ _ _ (q + 1) _ _ _ _ _ _ = _; rw [wn_s (by decide), f0_153]; rfl
theorem f0_154 : at1 code 154 = some (.if_icmp .ne 7) := at1_of at_154 rfl (by decide)
theorem s0_154 : V0 l Z b K (q + 1) 154 ls st H cN sN = (popI st fun y r => popI r fun x r => if x = y then V0 l Z b K q 157 ls r H cN sN else V0 l Z b K q 161 ls r H cN sN) := by show Wn _ _ _ _ _ _ _ _ _ _ _ _ _ _ _ (q + 1) _ _ _ _ _ _ = _; rw [wn_s (by decide), f0_154]; rfl
theorem f0_157 : at1 code 157 = some (.iconst 1) := at1_of at_157 rfl (by decide)
theorem s0_157 : V0 l Z b K (q + 1) 157 ls st H cN sN = (V0 l Z b K q 158 ls (.int 1 :: st) H cN sN) := by show Wn _ _ _ _ _ _ _ _ _ _ _ _ _ _ _ (q + 1) _ _ _ _ _ _ = _; rw [wn_s (by decide), f0_157]; rfl
theorem f0_158 : at1 code 158 = some (.goto 4) := at1_of at_158 rfl (by decide)
theorem s0_158 : V0 l Z b K (q + 1) 158 ls st H cN sN = (V0 l Z b K q 162 ls st H cN sN) := by show Wn _ _ _ _ _ _ _ _ _ _ _ _ _ _ _ (q + 1) _ _ _ _ _ _ = _; rw [wn_s (by decide), f0_158]; rfl
theorem f0_161 : at1 code 161 = some (.iconst 0) := at1_of at_161 rfl (by decide)
theorem s0_161 : V0 l Z b K (q + 1) 161 ls st H cN sN = (V0 l Z b K q 162 ls (.int 0 :: st) H cN sN) := by show Wn _ _ _ _ _ _ _ _ _ _ _ _ _ _ _ (q + 1) _ _ _ _ _ _ = _; rw [wn_s (by decide), f0_161]; rfl
theorem f0_162 : at1 code 162 = some (.istore 10) := at1_of at_162 rfl (by decide)
theorem s0_162 : V0 l Z b K (q + 1) 162 ls st H cN sN = (popI st fun v r => sto1 ls 10 (.int v) fun l' => V0 l Z b K q 164 l' r H cN sN) := by show Wn _ _ _ _ _ _ _ _ _ _ _ _ _ _ _ (q + 1) _ _ _ _ _ _ = _; rw [wn_s (by decide), f0_162]; rfl
theorem f0_164 : at1 code 164 = some (.iload 10) := at1_of at_164 rfl (by decide)
theorem s0_164 : V0 l Z b K (q + 1) 164 ls st H cN sN = (ldI ls 10 fun v => V0 l Z b K q 166 ls (.int v :: st) H cN sN) := by show Wn _ _ _ _ _ _ _ _ _ _ _ _ _ _ _ (q + 1) _ _ _ _ _ _ = _; rw [wn_s (by decide), f0_164]; rfl
theorem f0_166 : at1 code 166 = some (.ifCond .eq 23) := at1_of at_166 rfl (by decide)
theorem s0_166 : V0 l Z b K (q + 1) 166 ls st H cN sN = (popI st fun x r => if x = 0 then V0 l Z b K q 189 ls r H cN sN else V0 l Z b K q 169 ls r H cN sN) := by show Wn _ _ _ _ _ _ _ _ _ _ _ _ _ _ _ (q + 1) _ _ _ _ _ _ = _; rw [wn_s (by decide), f0_166]; rfl
theorem f0_169 : at1 code 169 = some (.aload 5) := at1_of at_169 rfl (by decide)
theorem s0_169 : V0 l Z b K (q + 1) 169 ls st H cN sN = (ldA ls 5 fun v => V0 l Z b K q 171 ls (v :: st) H cN sN) := by show Wn _ _ _ _ _ _ _ _ _ _ _ _ _ _ _ (q + 1) _ _ _ _ _ _ = _; rw [wn_s (by decide), f0_169]; rfl
theorem f0_171 : at1 code 171 = some (.iconst 0) := at1_of at_171 rfl (by decide)
theorem s0_171 : V0 l Z b K (q + 1) 171 ls st H cN sN = (V0 l Z b K q 172 ls (.int 0 :: st) H cN sN) := by show Wn _ _ _ _ _ _ _ _ _ _ _ _ _ _ _ (q + 1) _ _ _ _ _ _ = _; rw [wn_s (by decide), f0_171]; rfl
theorem f0_172 : at1 code 172 = some (.iload_n 3) := at1_of at_172 rfl (by decide)
theorem s0_172 : V0 l Z b K (q + 1) 172 ls st H cN sN = (ldI ls 3 fun v => V0 l Z b K q 173 ls (.int v :: st) H cN sN) := by show Wn _ _ _ _ _ _ _ _ _ _ _ _ _ _ _ (q + 1) _ _ _ _ _ _ = _; rw [wn_s (by decide), f0_172]; rfl
theorem f0_173 : at1 code 173 = some (.iload 9) := at1_of at_173 rfl (by decide)
theorem s0_173 : V0 l Z b K (q + 1) 173 ls st H cN sN = (ldI ls 9 fun v => V0 l Z b K q 175 ls (.int v :: st) H cN sN) := by show Wn _ _ _ _ _ _ _ _ _ _ _ _ _ _ _ (q + 1) _ _ _ _ _ _ = _; rw [wn_s (by decide), f0_173]; rfl
theorem f0_175 : at1 code 175 = some (.lload 7) := at1_of at_175 rfl (by decide)
theorem s0_175 : V0 l Z b K (q + 1) 175 ls st H cN sN = (ldJ ls 7 fun v => V0 l Z b K q 177 ls (.long v :: st) H cN sN) := by show Wn _ _ _ _ _ _ _ _ _ _ _ _ _ _ _ (q + 1) _ _ _ _ _ _ = _; rw [wn_s (by decide), f0_175]; rfl
theorem f0_177 : at1 code 177 = some (.iload 4) := at1_of at_177 rfl (by decide)
theorem s0_177 : V0 l Z b K (q + 1) 177 ls st H cN sN = (ldI ls 4 fun v => V0 l Z b K q 179 ls (.int v :: st) H cN sN) := by show Wn _ _ _ _ _ _ _ _ _ _ _ _ _ _ _ (q + 1) _ _ _ _ _ _ = _; rw [wn_s (by decide), f0_177]; rfl
theorem f0_179 : at1 code 179 = some (.invokestatic 23) := at1_of at_179 rfl (by decide)
theorem s0_179 : V0 l Z b K (q + 1) 179 ls st H cN sN = (G0 l Z b K 179 ls st H cN sN) := by show Wn _ _ _ _ _ _ _ _ _ _ _ _ _ _ _ (q + 1) _ _ _ _ _ _ = _; rw [wn_s (by decide), f0_179]; rfl
theorem f0_182 : at1 code 182 = some (.ifCond .eq 7) := at1_of at_182 rfl (by decide)
theorem s0_182 : V0 l Z b K (q + 1) 182 ls st H cN sN = (popI st fun x r => if x = 0 then V0 l Z b K q 189 ls r H cN sN else V0 l Z b K q 185 ls r H cN sN) := by show Wn _ _ _ _ _ _ _ _ _ _ _ _ _ _ _ (q + 1) _ _ _ _ _ _ = _; rw [wn_s (by decide), f0_182]; rfl
theorem f0_185 : at1 code 185 = some (.iconst 1) := at1_of at_185 rfl (by decide)
theorem s0_185 : V0 l Z b K (q + 1) 185 ls st H cN sN = (V0 l Z b K q 186 ls (.int 1 :: st) H cN sN) := by show Wn _ _ _ _ _ _ _ _ _ _ _ _ _ _ _ (q + 1) _ _ _ _ _ _ = _; rw [wn_s (by decide), f0_185]; rfl
theorem f0_186 : at1 code 186 = some (.goto 4) := at1_of at_186 rfl (by decide)
theorem s0_186 : V0 l Z b K (q + 1) 186 ls st H cN sN = (V0 l Z b K q 190 ls st H cN sN) := by show Wn _ _ _ _ _ _ _ _ _ _ _ _ _ _ _ (q + 1) _ _ _ _ _ _ = _; rw [wn_s (by decide), f0_186]; rfl
theorem f0_189 : at1 code 189 = some (.iconst 0) := at1_of at_189 rfl (by decide)
theorem s0_189 : V0 l Z b K (q + 1) 189 ls st H cN sN = (V0 l Z b K q 190 ls (.int 0 :: st) H cN sN) := by show Wn _ _ _ _ _ _ _ _ _ _ _ _ _ _ _ (q + 1) _ _ _ _ _ _ = _; rw [wn_s (by decide), f0_189]; rfl
theorem f0_190 : at1 code 190 = some (.istore 10) := at1_of at_190 rfl (by decide)
theorem s0_190 : V0 l Z b K (q + 1) 190 ls st H cN sN = (popI st fun v r => sto1 ls 10 (.int v) fun l' => V0 l Z b K q 192 l' r H cN sN) := by show Wn _ _ _ _ _ _ _ _ _ _ _ _ _ _ _ (q + 1) _ _ _ _ _ _ = _; rw [wn_s (by decide), f0_190]; rfl
theorem f0_192 : at1 code 192 = some (.iload 10) := at1_of at_192 rfl (by decide)
theorem s0_192 : V0 l Z b K (q + 1) 192 ls st H cN sN = (ldI ls 10 fun v => V0 l Z b K q 194 ls (.int v :: st) H cN sN) := by show Wn _ _ _ _ _ _ _ _ _ _ _ _ _ _ _ (q + 1) _ _ _ _ _ _ = _; rw [wn_s (by decide), f0_192]; rfl
theorem f0_194 : at1 code 194 = some (.ifCond .eq 23) := at1_of at_194 rfl (by decide)
theorem s0_194 : V0 l Z b K (q + 1) 194 ls st H cN sN = (popI st fun x r => if x = 0 then V0 l Z b K q 217 ls r H cN sN else V0 l Z b K q 197 ls r H cN sN) := by show Wn _ _ _ _ _ _ _ _ _ _ _ _ _ _ _ (q + 1) _ _ _ _ _ _ = _; rw [wn_s (by decide), f0_194]; rfl
theorem f0_197 : at1 code 197 = some (.aload 5) := at1_of at_197 rfl (by decide)
theorem s0_197 : V0 l Z b K (q + 1) 197 ls st H cN sN = (ldA ls 5 fun v => V0 l Z b K q 199 ls (v :: st) H cN sN) := by show Wn _ _ _ _ _ _ _ _ _ _ _ _ _ _ _ (q + 1) _ _ _ _ _ _ = _; rw [wn_s (by decide), f0_197]; rfl
theorem f0_199 : at1 code 199 = some (.iconst 1) := at1_of at_199 rfl (by decide)
theorem s0_199 : V0 l Z b K (q + 1) 199 ls st H cN sN = (V0 l Z b K q 200 ls (.int 1 :: st) H cN sN) := by show Wn _ _ _ _ _ _ _ _ _ _ _ _ _ _ _ (q + 1) _ _ _ _ _ _ = _; rw [wn_s (by decide), f0_199]; rfl
theorem f0_200 : at1 code 200 = some (.iload_n 3) := at1_of at_200 rfl (by decide)
theorem s0_200 : V0 l Z b K (q + 1) 200 ls st H cN sN = (ldI ls 3 fun v => V0 l Z b K q 201 ls (.int v :: st) H cN sN) := by show Wn _ _ _ _ _ _ _ _ _ _ _ _ _ _ _ (q + 1) _ _ _ _ _ _ = _; rw [wn_s (by decide), f0_200]; rfl
theorem f0_201 : at1 code 201 = some (.iload 9) := at1_of at_201 rfl (by decide)
theorem s0_201 : V0 l Z b K (q + 1) 201 ls st H cN sN = (ldI ls 9 fun v => V0 l Z b K q 203 ls (.int v :: st) H cN sN) := by show Wn _ _ _ _ _ _ _ _ _ _ _ _ _ _ _ (q + 1) _ _ _ _ _ _ = _; rw [wn_s (by decide), f0_201]; rfl
theorem f0_203 : at1 code 203 = some (.lload 7) := at1_of at_203 rfl (by decide)
theorem s0_203 : V0 l Z b K (q + 1) 203 ls st H cN sN = (ldJ ls 7 fun v => V0 l Z b K q 205 ls (.long v :: st) H cN sN) := by show Wn _ _ _ _ _ _ _ _ _ _ _ _ _ _ _ (q + 1) _ _ _ _ _ _ = _; rw [wn_s (by decide), f0_203]; rfl
theorem f0_205 : at1 code 205 = some (.iload 4) := at1_of at_205 rfl (by decide)
theorem s0_205 : V0 l Z b K (q + 1) 205 ls st H cN sN = (ldI ls 4 fun v => V0 l Z b K q 207 ls (.int v :: st) H cN sN) := by show Wn _ _ _ _ _ _ _ _ _ _ _ _ _ _ _ (q + 1) _ _ _ _ _ _ = _; rw [wn_s (by decide), f0_205]; rfl
theorem f0_207 : at1 code 207 = some (.invokestatic 23) := at1_of at_207 rfl (by decide)
theorem s0_207 : V0 l Z b K (q + 1) 207 ls st H cN sN = (G0 l Z b K 207 ls st H cN sN) := by show Wn _ _ _ _ _ _ _ _ _ _ _ _ _ _ _ (q + 1) _ _ _ _ _ _ = _; rw [wn_s (by decide), f0_207]; rfl
theorem f0_210 : at1 code 210 = some (.ifCond .eq 7) := at1_of at_210 rfl (by decide)
theorem s0_210 : V0 l Z b K (q + 1) 210 ls st H cN sN = (popI st fun x r => if x = 0 then V0 l Z b K q 217 ls r H cN sN else V0 l Z b K q 213 ls r H cN sN) := by show Wn _ _ _ _ _ _ _ _ _ _ _ _ _ _ _ (q + 1) _ _ _ _ _ _ = _; rw [wn_s (by decide), f0_210]; rfl
theorem f0_213 : at1 code 213 = some (.iconst 1) := at1_of at_213 rfl (by decide)
theorem s0_213 : V0 l Z b K (q + 1) 213 ls st H cN sN = (V0 l Z b K q 214 ls (.int 1 :: st) H cN sN) := by show Wn _ _ _ _ _ _ _ _ _ _ _ _ _ _ _ (q + 1) _ _ _ _ _ _ = _; rw [wn_s (by decide), f0_213]; rfl
theorem f0_214 : at1 code 214 = some (.goto 4) := at1_of at_214 rfl (by decide)
theorem s0_214 : V0 l Z b K (q + 1) 214 ls st H cN sN = (V0 l Z b K q 218 ls st H cN sN) := by show Wn _ _ _ _ _ _ _ _ _ _ _ _ _ _ _ (q + 1) _ _ _ _ _ _ = _; rw [wn_s (by decide), f0_214]; rfl
theorem f0_217 : at1 code 217 = some (.iconst 0) := at1_of at_217 rfl (by decide)
theorem s0_217 : V0 l Z b K (q + 1) 217 ls st H cN sN = (V0 l Z b K q 218 ls (.int 0 :: st) H cN sN) := by show Wn _ _ _ _ _ _ _ _ _ _ _ _ _ _ _ (q + 1) _ _ _ _ _ _ = _; rw [wn_s (by decide), f0_217]; rfl
theorem f0_218 : at1 code 218 = some (.istore 10) := at1_of at_218 rfl (by decide)
theorem s0_218 : V0 l Z b K (q + 1) 218 ls st H cN sN = (popI st fun v r => sto1 ls 10 (.int v) fun l' => V0 l Z b K q 220 l' r H cN sN) := by show Wn _ _ _ _ _ _ _ _ _ _ _ _ _ _ _ (q + 1) _ _ _ _ _ _ = _; rw [wn_s (by decide), f0_218]; rfl
theorem f0_220 : at1 code 220 = some (.iload 10) := at1_of at_220 rfl (by decide)
theorem s0_220 : V0 l Z b K (q + 1) 220 ls st H cN sN = (ldI ls 10 fun v => V0 l Z b K q 222 ls (.int v :: st) H cN sN) := by show Wn _ _ _ _ _ _ _ _ _ _ _ _ _ _ _ (q + 1) _ _ _ _ _ _ = _; rw [wn_s (by decide), f0_220]; rfl
theorem f0_222 : at1 code 222 = some (.ifCond .eq 23) := at1_of at_222 rfl (by decide)
theorem s0_222 : V0 l Z b K (q + 1) 222 ls st H cN sN = (popI st fun x r => if x = 0 then V0 l Z b K q 245 ls r H cN sN else V0 l Z b K q 225 ls r H cN sN) := by show Wn _ _ _ _ _ _ _ _ _ _ _ _ _ _ _ (q + 1) _ _ _ _ _ _ = _; rw [wn_s (by decide), f0_222]; rfl
theorem f0_225 : at1 code 225 = some (.aload 5) := at1_of at_225 rfl (by decide)
theorem s0_225 : V0 l Z b K (q + 1) 225 ls st H cN sN = (ldA ls 5 fun v => V0 l Z b K q 227 ls (v :: st) H cN sN) := by show Wn _ _ _ _ _ _ _ _ _ _ _ _ _ _ _ (q + 1) _ _ _ _ _ _ = _; rw [wn_s (by decide), f0_225]; rfl
theorem f0_227 : at1 code 227 = some (.iconst 2) := at1_of at_227 rfl (by decide)
theorem s0_227 : V0 l Z b K (q + 1) 227 ls st H cN sN = (V0 l Z b K q 228 ls (.int 2 :: st) H cN sN) := by show Wn _ _ _ _ _ _ _ _ _ _ _ _ _ _ _ (q + 1) _ _ _ _ _ _ = _; rw [wn_s (by decide), f0_227]; rfl
theorem f0_228 : at1 code 228 = some (.iload_n 3) := at1_of at_228 rfl (by decide)
theorem s0_228 : V0 l Z b K (q + 1) 228 ls st H cN sN = (ldI ls 3 fun v => V0 l Z b K q 229 ls (.int v :: st) H cN sN) := by show Wn _ _ _ _ _ _ _ _ _ _ _ _ _ _ _ (q + 1) _ _ _ _ _ _ = _; rw [wn_s (by decide), f0_228]; rfl
theorem f0_229 : at1 code 229 = some (.iload 9) := at1_of at_229 rfl (by decide)
theorem s0_229 : V0 l Z b K (q + 1) 229 ls st H cN sN = (ldI ls 9 fun v => V0 l Z b K q 231 ls (.int v :: st) H cN sN) := by show Wn _ _ _ _ _ _ _ _ _ _ _ _ _ _ _ (q + 1) _ _ _ _ _ _ = _; rw [wn_s (by decide), f0_229]; rfl
theorem f0_231 : at1 code 231 = some (.lload 7) := at1_of at_231 rfl (by decide)
theorem s0_231 : V0 l Z b K (q + 1) 231 ls st H cN sN = (ldJ ls 7 fun v => V0 l Z b K q 233 ls (.long v :: st) H cN sN) := by show Wn _ _ _ _ _ _ _ _ _ _ _ _ _ _ _ (q + 1) _ _ _ _ _ _ = _; rw [wn_s (by decide), f0_231]; rfl
theorem f0_233 : at1 code 233 = some (.iload 4) := at1_of at_233 rfl (by decide)
theorem s0_233 : V0 l Z b K (q + 1) 233 ls st H cN sN = (ldI ls 4 fun v => V0 l Z b K q 235 ls (.int v :: st) H cN sN) := by show Wn _ _ _ _ _ _ _ _ _ _ _ _ _ _ _ (q + 1) _ _ _ _ _ _ = _; rw [wn_s (by decide), f0_233]; rfl
theorem f0_235 : at1 code 235 = some (.invokestatic 23) := at1_of at_235 rfl (by decide)
theorem s0_235 : V0 l Z b K (q + 1) 235 ls st H cN sN = (G0 l Z b K 235 ls st H cN sN) := by show Wn _ _ _ _ _ _ _ _ _ _ _ _ _ _ _ (q + 1) _ _ _ _ _ _ = _; rw [wn_s (by decide), f0_235]; rfl
theorem f0_238 : at1 code 238 = some (.ifCond .eq 7) := at1_of at_238 rfl (by decide)
theorem s0_238 : V0 l Z b K (q + 1) 238 ls st H cN sN = (popI st fun x r => if x = 0 then V0 l Z b K q 245 ls r H cN sN else V0 l Z b K q 241 ls r H cN sN) := by show Wn _ _ _ _ _ _ _ _ _ _ _ _ _ _ _ (q + 1) _ _ _ _ _ _ = _; rw [wn_s (by decide), f0_238]; rfl
theorem f0_241 : at1 code 241 = some (.iconst 1) := at1_of at_241 rfl (by decide)
theorem s0_241 : V0 l Z b K (q + 1) 241 ls st H cN sN = (V0 l Z b K q 242 ls (.int 1 :: st) H cN sN) := by show Wn _ _ _ _ _ _ _ _ _ _ _ _ _ _ _ (q + 1) _ _ _ _ _ _ = _; rw [wn_s (by decide), f0_241]; rfl
theorem f0_242 : at1 code 242 = some (.goto 4) := at1_of at_242 rfl (by decide)
theorem s0_242 : V0 l Z b K (q + 1) 242 ls st H cN sN = (V0 l Z b K q 246 ls st H cN sN) := by show Wn _ _ _ _ _ _ _ _ _ _ _ _ _ _ _ (q + 1) _ _ _ _ _ _ = _; rw [wn_s (by decide), f0_242]; rfl
theorem f0_245 : at1 code 245 = some (.iconst 0) := at1_of at_245 rfl (by decide)
theorem s0_245 : V0 l Z b K (q + 1) 245 ls st H cN sN = (V0 l Z b K q 246 ls (.int 0 :: st) H cN sN) := by show Wn _ _ _ _ _ _ _ _ _ _ _ _ _ _ _ (q + 1) _ _ _ _ _ _ = _; rw [wn_s (by decide), f0_245]; rfl
theorem f0_246 : at1 code 246 = some (.istore 10) := at1_of at_246 rfl (by decide)
theorem s0_246 : V0 l Z b K (q + 1) 246 ls st H cN sN = (popI st fun v r => sto1 ls 10 (.int v) fun l' => V0 l Z b K q 248 l' r H cN sN) := by show Wn _ _ _ _ _ _ _ _ _ _ _ _ _ _ _ (q + 1) _ _ _ _ _ _ = _; rw [wn_s (by decide), f0_246]; rfl
theorem f0_248 : at1 code 248 = some (.iload 10) := at1_of at_248 rfl (by decide)
theorem s0_248 : V0 l Z b K (q + 1) 248 ls st H cN sN = (ldI ls 10 fun v => V0 l Z b K q 250 ls (.int v :: st) H cN sN) := by show Wn _ _ _ _ _ _ _ _ _ _ _ _ _ _ _ (q + 1) _ _ _ _ _ _ = _; rw [wn_s (by decide), f0_248]; rfl
theorem f0_250 : at1 code 250 = some (.ifCond .eq 23) := at1_of at_250 rfl (by decide)
theorem s0_250 : V0 l Z b K (q + 1) 250 ls st H cN sN = (popI st fun x r => if x = 0 then V0 l Z b K q 273 ls r H cN sN else V0 l Z b K q 253 ls r H cN sN) := by show Wn _ _ _ _ _ _ _ _ _ _ _ _ _ _ _ (q + 1) _ _ _ _ _ _ = _; rw [wn_s (by decide), f0_250]; rfl
theorem f0_253 : at1 code 253 = some (.aload 5) := at1_of at_253 rfl (by decide)
theorem s0_253 : V0 l Z b K (q + 1) 253 ls st H cN sN = (ldA ls 5 fun v => V0 l Z b K q 255 ls (v :: st) H cN sN) := by show Wn _ _ _ _ _ _ _ _ _ _ _ _ _ _ _ (q + 1) _ _ _ _ _ _ = _; rw [wn_s (by decide), f0_253]; rfl
theorem f0_255 : at1 code 255 = some (.iconst 3) := at1_of at_255 rfl (by decide)
theorem s0_255 : V0 l Z b K (q + 1) 255 ls st H cN sN = (V0 l Z b K q 256 ls (.int 3 :: st) H cN sN) := by show Wn _ _ _ _ _ _ _ _ _ _ _ _ _ _ _ (q + 1) _ _ _ _ _ _ = _; rw [wn_s (by decide), f0_255]; rfl
theorem f0_256 : at1 code 256 = some (.iload_n 3) := at1_of at_256 rfl (by decide)
theorem s0_256 : V0 l Z b K (q + 1) 256 ls st H cN sN = (ldI ls 3 fun v => V0 l Z b K q 257 ls (.int v :: st) H cN sN) := by show Wn _ _ _ _ _ _ _ _ _ _ _ _ _ _ _ (q + 1) _ _ _ _ _ _ = _; rw [wn_s (by decide), f0_256]; rfl
theorem f0_257 : at1 code 257 = some (.iload 9) := at1_of at_257 rfl (by decide)
theorem s0_257 : V0 l Z b K (q + 1) 257 ls st H cN sN = (ldI ls 9 fun v => V0 l Z b K q 259 ls (.int v :: st) H cN sN) := by show Wn _ _ _ _ _ _ _ _ _ _ _ _ _ _ _ (q + 1) _ _ _ _ _ _ = _; rw [wn_s (by decide), f0_257]; rfl
theorem f0_259 : at1 code 259 = some (.lload 7) := at1_of at_259 rfl (by decide)
theorem s0_259 : V0 l Z b K (q + 1) 259 ls st H cN sN = (ldJ ls 7 fun v => V0 l Z b K q 261 ls (.long v :: st) H cN sN) := by show Wn _ _ _ _ _ _ _ _ _ _ _ _ _ _ _ (q + 1) _ _ _ _ _ _ = _; rw [wn_s (by decide), f0_259]; rfl
theorem f0_261 : at1 code 261 = some (.iload 4) := at1_of at_261 rfl (by decide)
theorem s0_261 : V0 l Z b K (q + 1) 261 ls st H cN sN = (ldI ls 4 fun v => V0 l Z b K q 263 ls (.int v :: st) H cN sN) := by show Wn _ _ _ _ _ _ _ _ _ _ _ _ _ _ _ (q + 1) _ _ _ _ _ _ = _; rw [wn_s (by decide), f0_261]; rfl
theorem f0_263 : at1 code 263 = some (.invokestatic 23) := at1_of at_263 rfl (by decide)
theorem s0_263 : V0 l Z b K (q + 1) 263 ls st H cN sN = (G0 l Z b K 263 ls st H cN sN) := by show Wn _ _ _ _ _ _ _ _ _ _ _ _ _ _ _ (q + 1) _ _ _ _ _ _ = _; rw [wn_s (by decide), f0_263]; rfl
theorem f0_266 : at1 code 266 = some (.ifCond .eq 7) := at1_of at_266 rfl (by decide)
theorem s0_266 : V0 l Z b K (q + 1) 266 ls st H cN sN = (popI st fun x r => if x = 0 then V0 l Z b K q 273 ls r H cN sN else V0 l Z b K q 269 ls r H cN sN) := by show Wn _ _ _ _ _ _ _ _ _ _ _ _ _ _ _ (q + 1) _ _ _ _ _ _ = _; rw [wn_s (by decide), f0_266]; rfl
theorem f0_269 : at1 code 269 = some (.iconst 1) := at1_of at_269 rfl (by decide)
theorem s0_269 : V0 l Z b K (q + 1) 269 ls st H cN sN = (V0 l Z b K q 270 ls (.int 1 :: st) H cN sN) := by show Wn _ _ _ _ _ _ _ _ _ _ _ _ _ _ _ (q + 1) _ _ _ _ _ _ = _; rw [wn_s (by decide), f0_269]; rfl
theorem f0_270 : at1 code 270 = some (.goto 4) := at1_of at_270 rfl (by decide)
theorem s0_270 : V0 l Z b K (q + 1) 270 ls st H cN sN = (V0 l Z b K q 274 ls st H cN sN) := by show Wn _ _ _ _ _ _ _ _ _ _ _ _ _ _ _ (q + 1) _ _ _ _ _ _ = _; rw [wn_s (by decide), f0_270]; rfl
theorem f0_273 : at1 code 273 = some (.iconst 0) := at1_of at_273 rfl (by decide)
theorem s0_273 : V0 l Z b K (q + 1) 273 ls st H cN sN = (V0 l Z b K q 274 ls (.int 0 :: st) H cN sN) := by show Wn _ _ _ _ _ _ _ _ _ _ _ _ _ _ _ (q + 1) _ _ _ _ _ _ = _; rw [wn_s (by decide), f0_273]; rfl
theorem f0_274 : at1 code 274 = some (.istore 10) := at1_of at_274 rfl (by decide)
theorem s0_274 : V0 l Z b K (q + 1) 274 ls st H cN sN = (popI st fun v r => sto1 ls 10 (.int v) fun l' => V0 l Z b K q 276 l' r H cN sN) := by show Wn _ _ _ _ _ _ _ _ _ _ _ _ _ _ _ (q + 1) _ _ _ _ _ _ = _; rw [wn_s (by decide), f0_274]; rfl
theorem f0_276 : at1 code 276 = some (.iload 10) := at1_of at_276 rfl (by decide)
theorem s0_276 : V0 l Z b K (q + 1) 276 ls st H cN sN = (ldI ls 10 fun v => V0 l Z b K q 278 ls (.int v :: st) H cN sN) := by show Wn _ _ _ _ _ _ _ _ _ _ _ _ _ _ _ (q + 1) _ _ _ _ _ _ = _; rw [wn_s (by decide), f0_276]; rfl
theorem f0_278 : at1 code 278 = some (.ifCond .eq 23) := at1_of at_278 rfl (by decide)
theorem s0_278 : V0 l Z b K (q + 1) 278 ls st H cN sN = (popI st fun x r => if x = 0 then V0 l Z b K q 301 ls r H cN sN else V0 l Z b K q 281 ls r H cN sN) := by show Wn _ _ _ _ _ _ _ _ _ _ _ _ _ _ _ (q + 1) _ _ _ _ _ _ = _; rw [wn_s (by decide), f0_278]; rfl
theorem f0_281 : at1 code 281 = some (.aload 5) := at1_of at_281 rfl (by decide)
theorem s0_281 : V0 l Z b K (q + 1) 281 ls st H cN sN = (ldA ls 5 fun v => V0 l Z b K q 283 ls (v :: st) H cN sN) := by show Wn _ _ _ _ _ _ _ _ _ _ _ _ _ _ _ (q + 1) _ _ _ _ _ _ = _; rw [wn_s (by decide), f0_281]; rfl
theorem f0_283 : at1 code 283 = some (.iconst 4) := at1_of at_283 rfl (by decide)
theorem s0_283 : V0 l Z b K (q + 1) 283 ls st H cN sN = (V0 l Z b K q 284 ls (.int 4 :: st) H cN sN) := by show Wn _ _ _ _ _ _ _ _ _ _ _ _ _ _ _ (q + 1) _ _ _ _ _ _ = _; rw [wn_s (by decide), f0_283]; rfl
theorem f0_284 : at1 code 284 = some (.iload_n 3) := at1_of at_284 rfl (by decide)
theorem s0_284 : V0 l Z b K (q + 1) 284 ls st H cN sN = (ldI ls 3 fun v => V0 l Z b K q 285 ls (.int v :: st) H cN sN) := by show Wn _ _ _ _ _ _ _ _ _ _ _ _ _ _ _ (q + 1) _ _ _ _ _ _ = _; rw [wn_s (by decide), f0_284]; rfl
theorem f0_285 : at1 code 285 = some (.iload 9) := at1_of at_285 rfl (by decide)
theorem s0_285 : V0 l Z b K (q + 1) 285 ls st H cN sN = (ldI ls 9 fun v => V0 l Z b K q 287 ls (.int v :: st) H cN sN) := by show Wn _ _ _ _ _ _ _ _ _ _ _ _ _ _ _ (q + 1) _ _ _ _ _ _ = _; rw [wn_s (by decide), f0_285]; rfl
theorem f0_287 : at1 code 287 = some (.lload 7) := at1_of at_287 rfl (by decide)
theorem s0_287 : V0 l Z b K (q + 1) 287 ls st H cN sN = (ldJ ls 7 fun v => V0 l Z b K q 289 ls (.long v :: st) H cN sN) := by show Wn _ _ _ _ _ _ _ _ _ _ _ _ _ _ _ (q + 1) _ _ _ _ _ _ = _; rw [wn_s (by decide), f0_287]; rfl
theorem f0_289 : at1 code 289 = some (.iload 4) := at1_of at_289 rfl (by decide)
theorem s0_289 : V0 l Z b K (q + 1) 289 ls st H cN sN = (ldI ls 4 fun v => V0 l Z b K q 291 ls (.int v :: st) H cN sN) := by show Wn _ _ _ _ _ _ _ _ _ _ _ _ _ _ _ (q + 1) _ _ _ _ _ _ = _; rw [wn_s (by decide), f0_289]; rfl
theorem f0_291 : at1 code 291 = some (.invokestatic 23) := at1_of at_291 rfl (by decide)
theorem s0_291 : V0 l Z b K (q + 1) 291 ls st H cN sN = (G0 l Z b K 291 ls st H cN sN) := by show Wn _ _ _ _ _ _ _ _ _ _ _ _ _ _ _ (q + 1) _ _ _ _ _ _ = _; rw [wn_s (by decide), f0_291]; rfl
theorem f0_294 : at1 code 294 = some (.ifCond .eq 7) := at1_of at_294 rfl (by decide)
theorem s0_294 : V0 l Z b K (q + 1) 294 ls st H cN sN = (popI st fun x r => if x = 0 then V0 l Z b K q 301 ls r H cN sN else V0 l Z b K q 297 ls r H cN sN) := by show Wn _ _ _ _ _ _ _ _ _ _ _ _ _ _ _ (q + 1) _ _ _ _ _ _ = _; rw [wn_s (by decide), f0_294]; rfl
theorem f0_297 : at1 code 297 = some (.iconst 1) := at1_of at_297 rfl (by decide)
theorem s0_297 : V0 l Z b K (q + 1) 297 ls st H cN sN = (V0 l Z b K q 298 ls (.int 1 :: st) H cN sN) := by show Wn _ _ _ _ _ _ _ _ _ _ _ _ _ _ _ (q + 1) _ _ _ _ _ _ = _; rw [wn_s (by decide), f0_297]; rfl
theorem f0_298 : at1 code 298 = some (.goto 4) := at1_of at_298 rfl (by decide)
theorem s0_298 : V0 l Z b K (q + 1) 298 ls st H cN sN = (V0 l Z b K q 302 ls st H cN sN) := by show Wn _ _ _ _ _ _ _ _ _ _ _ _ _ _ _ (q + 1) _ _ _ _ _ _ = _; rw [wn_s (by decide), f0_298]; rfl
theorem f0_301 : at1 code 301 = some (.iconst 0) := at1_of at_301 rfl (by decide)
theorem s0_301 : V0 l Z b K (q + 1) 301 ls st H cN sN = (V0 l Z b K q 302 ls (.int 0 :: st) H cN sN) := by show Wn _ _ _ _ _ _ _ _ _ _ _ _ _ _ _ (q + 1) _ _ _ _ _ _ = _; rw [wn_s (by decide), f0_301]; rfl
theorem f0_302 : at1 code 302 = some (.istore 10) := at1_of at_302 rfl (by decide)
theorem s0_302 : V0 l Z b K (q + 1) 302 ls st H cN sN = (popI st fun v r => sto1 ls 10 (.int v) fun l' => V0 l Z b K q 304 l' r H cN sN) := by show Wn _ _ _ _ _ _ _ _ _ _ _ _ _ _ _ (q + 1) _ _ _ _ _ _ = _; rw [wn_s (by decide), f0_302]; rfl
theorem f0_304 : at1 code 304 = some (.iload 10) := at1_of at_304 rfl (by decide)
theorem s0_304 : V0 l Z b K (q + 1) 304 ls st H cN sN = (ldI ls 10 fun v => V0 l Z b K q 306 ls (.int v :: st) H cN sN) := by show Wn _ _ _ _ _ _ _ _ _ _ _ _ _ _ _ (q + 1) _ _ _ _ _ _ = _; rw [wn_s (by decide), f0_304]; rfl
theorem f0_306 : at1 code 306 = some (.ifCond .eq 23) := at1_of at_306 rfl (by decide)
theorem s0_306 : V0 l Z b K (q + 1) 306 ls st H cN sN = (popI st fun x r => if x = 0 then V0 l Z b K q 329 ls r H cN sN else V0 l Z b K q 309 ls r H cN sN) := by show Wn _ _ _ _ _ _ _ _ _ _ _ _ _ _ _ (q + 1) _ _ _ _ _ _ = _; rw [wn_s (by decide), f0_306]; rfl
theorem f0_309 : at1 code 309 = some (.aload 5) := at1_of at_309 rfl (by decide)
theorem s0_309 : V0 l Z b K (q + 1) 309 ls st H cN sN = (ldA ls 5 fun v => V0 l Z b K q 311 ls (v :: st) H cN sN) := by show Wn _ _ _ _ _ _ _ _ _ _ _ _ _ _ _ (q + 1) _ _ _ _ _ _ = _; rw [wn_s (by decide), f0_309]; rfl
theorem f0_311 : at1 code 311 = some (.iconst 5) := at1_of at_311 rfl (by decide)
theorem s0_311 : V0 l Z b K (q + 1) 311 ls st H cN sN = (V0 l Z b K q 312 ls (.int 5 :: st) H cN sN) := by show Wn _ _ _ _ _ _ _ _ _ _ _ _ _ _ _ (q + 1) _ _ _ _ _ _ = _; rw [wn_s (by decide), f0_311]; rfl
theorem f0_312 : at1 code 312 = some (.iload_n 3) := at1_of at_312 rfl (by decide)
theorem s0_312 : V0 l Z b K (q + 1) 312 ls st H cN sN = (ldI ls 3 fun v => V0 l Z b K q 313 ls (.int v :: st) H cN sN) := by show Wn _ _ _ _ _ _ _ _ _ _ _ _ _ _ _ (q + 1) _ _ _ _ _ _ = _; rw [wn_s (by decide), f0_312]; rfl
theorem f0_313 : at1 code 313 = some (.iload 9) := at1_of at_313 rfl (by decide)
theorem s0_313 : V0 l Z b K (q + 1) 313 ls st H cN sN = (ldI ls 9 fun v => V0 l Z b K q 315 ls (.int v :: st) H cN sN) := by show Wn _ _ _ _ _ _ _ _ _ _ _ _ _ _ _ (q + 1) _ _ _ _ _ _ = _; rw [wn_s (by decide), f0_313]; rfl
theorem f0_315 : at1 code 315 = some (.lload 7) := at1_of at_315 rfl (by decide)
theorem s0_315 : V0 l Z b K (q + 1) 315 ls st H cN sN = (ldJ ls 7 fun v => V0 l Z b K q 317 ls (.long v :: st) H cN sN) := by show Wn _ _ _ _ _ _ _ _ _ _ _ _ _ _ _ (q + 1) _ _ _ _ _ _ = _; rw [wn_s (by decide), f0_315]; rfl
theorem f0_317 : at1 code 317 = some (.iload 4) := at1_of at_317 rfl (by decide)
theorem s0_317 : V0 l Z b K (q + 1) 317 ls st H cN sN = (ldI ls 4 fun v => V0 l Z b K q 319 ls (.int v :: st) H cN sN) := by show Wn _ _ _ _ _ _ _ _ _ _ _ _ _ _ _ (q + 1) _ _ _ _ _ _ = _; rw [wn_s (by decide), f0_317]; rfl
theorem f0_319 : at1 code 319 = some (.invokestatic 23) := at1_of at_319 rfl (by decide)
theorem s0_319 : V0 l Z b K (q + 1) 319 ls st H cN sN = (G0 l Z b K 319 ls st H cN sN) := by show Wn _ _ _ _ _ _ _ _ _ _ _ _ _ _ _ (q + 1) _ _ _ _ _ _ = _; rw [wn_s (by decide), f0_319]; rfl
theorem f0_322 : at1 code 322 = some (.ifCond .eq 7) := at1_of at_322 rfl (by decide)
theorem s0_322 : V0 l Z b K (q + 1) 322 ls st H cN sN = (popI st fun x r => if x = 0 then V0 l Z b K q 329 ls r H cN sN else V0 l Z b K q 325 ls r H cN sN) := by show Wn _ _ _ _ _ _ _ _ _ _ _ _ _ _ _ (q + 1) _ _ _ _ _ _ = _; rw [wn_s (by decide), f0_322]; rfl
theorem f0_325 : at1 code 325 = some (.iconst 1) := at1_of at_325 rfl (by decide)
theorem s0_325 : V0 l Z b K (q + 1) 325 ls st H cN sN = (V0 l Z b K q 326 ls (.int 1 :: st) H cN sN) := by show Wn _ _ _ _ _ _ _ _ _ _ _ _ _ _ _ (q + 1) _ _ _ _ _ _ = _; rw [wn_s (by decide), f0_325]; rfl
theorem f0_326 : at1 code 326 = some (.goto 4) := at1_of at_326 rfl (by decide)
theorem s0_326 : V0 l Z b K (q + 1) 326 ls st H cN sN = (V0 l Z b K q 330 ls st H cN sN) := by show Wn _ _ _ _ _ _ _ _ _ _ _ _ _ _ _ (q + 1) _ _ _ _ _ _ = _; rw [wn_s (by decide), f0_326]; rfl
theorem f0_329 : at1 code 329 = some (.iconst 0) := at1_of at_329 rfl (by decide)
theorem s0_329 : V0 l Z b K (q + 1) 329 ls st H cN sN = (V0 l Z b K q 330 ls (.int 0 :: st) H cN sN) := by show Wn _ _ _ _ _ _ _ _ _ _ _ _ _ _ _ (q + 1) _ _ _ _ _ _ = _; rw [wn_s (by decide), f0_329]; rfl
theorem f0_330 : at1 code 330 = some (.istore 10) := at1_of at_330 rfl (by decide)
theorem s0_330 : V0 l Z b K (q + 1) 330 ls st H cN sN = (popI st fun v r => sto1 ls 10 (.int v) fun l' => V0 l Z b K q 332 l' r H cN sN) := by show Wn _ _ _ _ _ _ _ _ _ _ _ _ _ _ _ (q + 1) _ _ _ _ _ _ = _; rw [wn_s (by decide), f0_330]; rfl
theorem f0_332 : at1 code 332 = some (.iload 10) := at1_of at_332 rfl (by decide)
theorem s0_332 : V0 l Z b K (q + 1) 332 ls st H cN sN = (ldI ls 10 fun v => V0 l Z b K q 334 ls (.int v :: st) H cN sN) := by show Wn _ _ _ _ _ _ _ _ _ _ _ _ _ _ _ (q + 1) _ _ _ _ _ _ = _; rw [wn_s (by decide), f0_332]; rfl
theorem f0_334 : at1 code 334 = some (.ifCond .eq 24) := at1_of at_334 rfl (by decide)
theorem s0_334 : V0 l Z b K (q + 1) 334 ls st H cN sN = (popI st fun x r => if x = 0 then V0 l Z b K q 358 ls r H cN sN else V0 l Z b K q 337 ls r H cN sN) := by show Wn _ _ _ _ _ _ _ _ _ _ _ _ _ _ _ (q + 1) _ _ _ _ _ _ = _; rw [wn_s (by decide), f0_334]; rfl
theorem f0_337 : at1 code 337 = some (.aload 5) := at1_of at_337 rfl (by decide)
theorem s0_337 : V0 l Z b K (q + 1) 337 ls st H cN sN = (ldA ls 5 fun v => V0 l Z b K q 339 ls (v :: st) H cN sN) := by show Wn _ _ _ _ _ _ _ _ _ _ _ _ _ _ _ (q + 1) _ _ _ _ _ _ = _; rw [wn_s (by decide), f0_337]; rfl
theorem f0_339 : at1 code 339 = some (.bipush 6) := at1_of at_339 rfl (by decide)
theorem s0_339 : V0 l Z b K (q + 1) 339 ls st H cN sN = (V0 l Z b K q 341 ls (.int 6 :: st) H cN sN) := by show Wn _ _ _ _ _ _ _ _ _ _ _ _ _ _ _ (q + 1) _ _ _ _ _ _ = _; rw [wn_s (by decide), f0_339]; rfl
theorem f0_341 : at1 code 341 = some (.iload_n 3) := at1_of at_341 rfl (by decide)
theorem s0_341 : V0 l Z b K (q + 1) 341 ls st H cN sN = (ldI ls 3 fun v => V0 l Z b K q 342 ls (.int v :: st) H cN sN) := by show Wn _ _ _ _ _ _ _ _ _ _ _ _ _ _ _ (q + 1) _ _ _ _ _ _ = _; rw [wn_s (by decide), f0_341]; rfl
theorem f0_342 : at1 code 342 = some (.iload 9) := at1_of at_342 rfl (by decide)
theorem s0_342 : V0 l Z b K (q + 1) 342 ls st H cN sN = (ldI ls 9 fun v => V0 l Z b K q 344 ls (.int v :: st) H cN sN) := by show Wn _ _ _ _ _ _ _ _ _ _ _ _ _ _ _ (q + 1) _ _ _ _ _ _ = _; rw [wn_s (by decide), f0_342]; rfl
theorem f0_344 : at1 code 344 = some (.lload 7) := at1_of at_344 rfl (by decide)
theorem s0_344 : V0 l Z b K (q + 1) 344 ls st H cN sN = (ldJ ls 7 fun v => V0 l Z b K q 346 ls (.long v :: st) H cN sN) := by show Wn _ _ _ _ _ _ _ _ _ _ _ _ _ _ _ (q + 1) _ _ _ _ _ _ = _; rw [wn_s (by decide), f0_344]; rfl
theorem f0_346 : at1 code 346 = some (.iload 4) := at1_of at_346 rfl (by decide)
theorem s0_346 : V0 l Z b K (q + 1) 346 ls st H cN sN = (ldI ls 4 fun v => V0 l Z b K q 348 ls (.int v :: st) H cN sN) := by show Wn _ _ _ _ _ _ _ _ _ _ _ _ _ _ _ (q + 1) _ _ _ _ _ _ = _; rw [wn_s (by decide), f0_346]; rfl
theorem f0_348 : at1 code 348 = some (.invokestatic 23) := at1_of at_348 rfl (by decide)
theorem s0_348 : V0 l Z b K (q + 1) 348 ls st H cN sN = (G0 l Z b K 348 ls st H cN sN) := by show Wn _ _ _ _ _ _ _ _ _ _ _ _ _ _ _ (q + 1) _ _ _ _ _ _ = _; rw [wn_s (by decide), f0_348]; rfl
theorem f0_351 : at1 code 351 = some (.ifCond .eq 7) := at1_of at_351 rfl (by decide)
theorem s0_351 : V0 l Z b K (q + 1) 351 ls st H cN sN = (popI st fun x r => if x = 0 then V0 l Z b K q 358 ls r H cN sN else V0 l Z b K q 354 ls r H cN sN) := by show Wn _ _ _ _ _ _ _ _ _ _ _ _ _ _ _ (q + 1) _ _ _ _ _ _ = _; rw [wn_s (by decide), f0_351]; rfl
theorem f0_354 : at1 code 354 = some (.iconst 1) := at1_of at_354 rfl (by decide)
theorem s0_354 : V0 l Z b K (q + 1) 354 ls st H cN sN = (V0 l Z b K q 355 ls (.int 1 :: st) H cN sN) := by show Wn _ _ _ _ _ _ _ _ _ _ _ _ _ _ _ (q + 1) _ _ _ _ _ _ = _; rw [wn_s (by decide), f0_354]; rfl
theorem f0_355 : at1 code 355 = some (.goto 4) := at1_of at_355 rfl (by decide)
theorem s0_355 : V0 l Z b K (q + 1) 355 ls st H cN sN = (V0 l Z b K q 359 ls st H cN sN) := by show Wn _ _ _ _ _ _ _ _ _ _ _ _ _ _ _ (q + 1) _ _ _ _ _ _ = _; rw [wn_s (by decide), f0_355]; rfl
theorem f0_358 : at1 code 358 = some (.iconst 0) := at1_of at_358 rfl (by decide)
theorem s0_358 : V0 l Z b K (q + 1) 358 ls st H cN sN = (V0 l Z b K q 359 ls (.int 0 :: st) H cN sN) := by show Wn _ _ _ _ _ _ _ _ _ _ _ _ _ _ _ (q + 1) _ _ _ _ _ _ = _; rw [wn_s (by decide), f0_358]; rfl
theorem f0_359 : at1 code 359 = some (.istore 10) := at1_of at_359 rfl (by decide)
theorem s0_359 : V0 l Z b K (q + 1) 359 ls st H cN sN = (popI st fun v r => sto1 ls 10 (.int v) fun l' => V0 l Z b K q 361 l' r H cN sN) := by show Wn _ _ _ _ _ _ _ _ _ _ _ _ _ _ _ (q + 1) _ _ _ _ _ _ = _; rw [wn_s (by decide), f0_359]; rfl
theorem f0_361 : at1 code 361 = some (.iload 10) := at1_of at_361 rfl (by decide)
theorem s0_361 : V0 l Z b K (q + 1) 361 ls st H cN sN = (ldI ls 10 fun v => V0 l Z b K q 363 ls (.int v :: st) H cN sN) := by show Wn _ _ _ _ _ _ _ _ _ _ _ _ _ _ _ (q + 1) _ _ _ _ _ _ = _; rw [wn_s (by decide), f0_361]; rfl
theorem f0_363 : at1 code 363 = some (.ifCond .eq 24) := at1_of at_363 rfl (by decide)
theorem s0_363 : V0 l Z b K (q + 1) 363 ls st H cN sN = (popI st fun x r => if x = 0 then V0 l Z b K q 387 ls r H cN sN else V0 l Z b K q 366 ls r H cN sN) := by show Wn _ _ _ _ _ _ _ _ _ _ _ _ _ _ _ (q + 1) _ _ _ _ _ _ = _; rw [wn_s (by decide), f0_363]; rfl
theorem f0_366 : at1 code 366 = some (.aload 5) := at1_of at_366 rfl (by decide)
theorem s0_366 : V0 l Z b K (q + 1) 366 ls st H cN sN = (ldA ls 5 fun v => V0 l Z b K q 368 ls (v :: st) H cN sN) := by show Wn _ _ _ _ _ _ _ _ _ _ _ _ _ _ _ (q + 1) _ _ _ _ _ _ = _; rw [wn_s (by decide), f0_366]; rfl
theorem f0_368 : at1 code 368 = some (.bipush 7) := at1_of at_368 rfl (by decide)
theorem s0_368 : V0 l Z b K (q + 1) 368 ls st H cN sN = (V0 l Z b K q 370 ls (.int 7 :: st) H cN sN) := by show Wn _ _ _ _ _ _ _ _ _ _ _ _ _ _ _ (q + 1) _ _ _ _ _ _ = _; rw [wn_s (by decide), f0_368]; rfl
theorem f0_370 : at1 code 370 = some (.iload_n 3) := at1_of at_370 rfl (by decide)
theorem s0_370 : V0 l Z b K (q + 1) 370 ls st H cN sN = (ldI ls 3 fun v => V0 l Z b K q 371 ls (.int v :: st) H cN sN) := by show Wn _ _ _ _ _ _ _ _ _ _ _ _ _ _ _ (q + 1) _ _ _ _ _ _ = _; rw [wn_s (by decide), f0_370]; rfl
theorem f0_371 : at1 code 371 = some (.iload 9) := at1_of at_371 rfl (by decide)
theorem s0_371 : V0 l Z b K (q + 1) 371 ls st H cN sN = (ldI ls 9 fun v => V0 l Z b K q 373 ls (.int v :: st) H cN sN) := by show Wn _ _ _ _ _ _ _ _ _ _ _ _ _ _ _ (q + 1) _ _ _ _ _ _ = _; rw [wn_s (by decide), f0_371]; rfl
theorem f0_373 : at1 code 373 = some (.lload 7) := at1_of at_373 rfl (by decide)
theorem s0_373 : V0 l Z b K (q + 1) 373 ls st H cN sN = (ldJ ls 7 fun v => V0 l Z b K q 375 ls (.long v :: st) H cN sN) := by show Wn _ _ _ _ _ _ _ _ _ _ _ _ _ _ _ (q + 1) _ _ _ _ _ _ = _; rw [wn_s (by decide), f0_373]; rfl
theorem f0_375 : at1 code 375 = some (.iload 4) := at1_of at_375 rfl (by decide)
theorem s0_375 : V0 l Z b K (q + 1) 375 ls st H cN sN = (ldI ls 4 fun v => V0 l Z b K q 377 ls (.int v :: st) H cN sN) := by show Wn _ _ _ _ _ _ _ _ _ _ _ _ _ _ _ (q + 1) _ _ _ _ _ _ = _; rw [wn_s (by decide), f0_375]; rfl
theorem f0_377 : at1 code 377 = some (.invokestatic 23) := at1_of at_377 rfl (by decide)
theorem s0_377 : V0 l Z b K (q + 1) 377 ls st H cN sN = (G0 l Z b K 377 ls st H cN sN) := by show Wn _ _ _ _ _ _ _ _ _ _ _ _ _ _ _ (q + 1) _ _ _ _ _ _ = _; rw [wn_s (by decide), f0_377]; rfl
theorem f0_380 : at1 code 380 = some (.ifCond .eq 7) := at1_of at_380 rfl (by decide)
theorem s0_380 : V0 l Z b K (q + 1) 380 ls st H cN sN = (popI st fun x r => if x = 0 then V0 l Z b K q 387 ls r H cN sN else V0 l Z b K q 383 ls r H cN sN) := by show Wn _ _ _ _ _ _ _ _ _ _ _ _ _ _ _ (q + 1) _ _ _ _ _ _ = _; rw [wn_s (by decide), f0_380]; rfl
theorem f0_383 : at1 code 383 = some (.iconst 1) := at1_of at_383 rfl (by decide)
theorem s0_383 : V0 l Z b K (q + 1) 383 ls st H cN sN = (V0 l Z b K q 384 ls (.int 1 :: st) H cN sN) := by show Wn _ _ _ _ _ _ _ _ _ _ _ _ _ _ _ (q + 1) _ _ _ _ _ _ = _; rw [wn_s (by decide), f0_383]; rfl
theorem f0_384 : at1 code 384 = some (.goto 4) := at1_of at_384 rfl (by decide)
theorem s0_384 : V0 l Z b K (q + 1) 384 ls st H cN sN = (V0 l Z b K q 388 ls st H cN sN) := by show Wn _ _ _ _ _ _ _ _ _ _ _ _ _ _ _ (q + 1) _ _ _ _ _ _ = _; rw [wn_s (by decide), f0_384]; rfl
theorem f0_387 : at1 code 387 = some (.iconst 0) := at1_of at_387 rfl (by decide)
theorem s0_387 : V0 l Z b K (q + 1) 387 ls st H cN sN = (V0 l Z b K q 388 ls (.int 0 :: st) H cN sN) := by show Wn _ _ _ _ _ _ _ _ _ _ _ _ _ _ _ (q + 1) _ _ _ _ _ _ = _; rw [wn_s (by decide), f0_387]; rfl
theorem f0_388 : at1 code 388 = some (.istore 10) := at1_of at_388 rfl (by decide)
theorem s0_388 : V0 l Z b K (q + 1) 388 ls st H cN sN = (popI st fun v r => sto1 ls 10 (.int v) fun l' => V0 l Z b K q 390 l' r H cN sN) := by show Wn _ _ _ _ _ _ _ _ _ _ _ _ _ _ _ (q + 1) _ _ _ _ _ _ = _; rw [wn_s (by decide), f0_388]; rfl
theorem f0_390 : at1 code 390 = some (.iload 10) := at1_of at_390 rfl (by decide)
theorem s0_390 : V0 l Z b K (q + 1) 390 ls st H cN sN = (ldI ls 10 fun v => V0 l Z b K q 392 ls (.int v :: st) H cN sN) := by show Wn _ _ _ _ _ _ _ _ _ _ _ _ _ _ _ (q + 1) _ _ _ _ _ _ = _; rw [wn_s (by decide), f0_390]; rfl
theorem f0_392 : at1 code 392 = some (.ifCond .eq 24) := at1_of at_392 rfl (by decide)
theorem s0_392 : V0 l Z b K (q + 1) 392 ls st H cN sN = (popI st fun x r => if x = 0 then V0 l Z b K q 416 ls r H cN sN else V0 l Z b K q 395 ls r H cN sN) := by show Wn _ _ _ _ _ _ _ _ _ _ _ _ _ _ _ (q + 1) _ _ _ _ _ _ = _; rw [wn_s (by decide), f0_392]; rfl
theorem f0_395 : at1 code 395 = some (.aload 5) := at1_of at_395 rfl (by decide)
theorem s0_395 : V0 l Z b K (q + 1) 395 ls st H cN sN = (ldA ls 5 fun v => V0 l Z b K q 397 ls (v :: st) H cN sN) := by show Wn _ _ _ _ _ _ _ _ _ _ _ _ _ _ _ (q + 1) _ _ _ _ _ _ = _; rw [wn_s (by decide), f0_395]; rfl
theorem f0_397 : at1 code 397 = some (.bipush 8) := at1_of at_397 rfl (by decide)
theorem s0_397 : V0 l Z b K (q + 1) 397 ls st H cN sN = (V0 l Z b K q 399 ls (.int 8 :: st) H cN sN) := by show Wn _ _ _ _ _ _ _ _ _ _ _ _ _ _ _ (q + 1) _ _ _ _ _ _ = _; rw [wn_s (by decide), f0_397]; rfl
theorem f0_399 : at1 code 399 = some (.iload_n 3) := at1_of at_399 rfl (by decide)
theorem s0_399 : V0 l Z b K (q + 1) 399 ls st H cN sN = (ldI ls 3 fun v => V0 l Z b K q 400 ls (.int v :: st) H cN sN) := by show Wn _ _ _ _ _ _ _ _ _ _ _ _ _ _ _ (q + 1) _ _ _ _ _ _ = _; rw [wn_s (by decide), f0_399]; rfl
theorem f0_400 : at1 code 400 = some (.iload 9) := at1_of at_400 rfl (by decide)
theorem s0_400 : V0 l Z b K (q + 1) 400 ls st H cN sN = (ldI ls 9 fun v => V0 l Z b K q 402 ls (.int v :: st) H cN sN) := by show Wn _ _ _ _ _ _ _ _ _ _ _ _ _ _ _ (q + 1) _ _ _ _ _ _ = _; rw [wn_s (by decide), f0_400]; rfl
theorem f0_402 : at1 code 402 = some (.lload 7) := at1_of at_402 rfl (by decide)
theorem s0_402 : V0 l Z b K (q + 1) 402 ls st H cN sN = (ldJ ls 7 fun v => V0 l Z b K q 404 ls (.long v :: st) H cN sN) := by show Wn _ _ _ _ _ _ _ _ _ _ _ _ _ _ _ (q + 1) _ _ _ _ _ _ = _; rw [wn_s (by decide), f0_402]; rfl
theorem f0_404 : at1 code 404 = some (.iload 4) := at1_of at_404 rfl (by decide)
theorem s0_404 : V0 l Z b K (q + 1) 404 ls st H cN sN = (ldI ls 4 fun v => V0 l Z b K q 406 ls (.int v :: st) H cN sN) := by show Wn _ _ _ _ _ _ _ _ _ _ _ _ _ _ _ (q + 1) _ _ _ _ _ _ = _; rw [wn_s (by decide), f0_404]; rfl
theorem f0_406 : at1 code 406 = some (.invokestatic 23) := at1_of at_406 rfl (by decide)
theorem s0_406 : V0 l Z b K (q + 1) 406 ls st H cN sN = (G0 l Z b K 406 ls st H cN sN) := by show Wn _ _ _ _ _ _ _ _ _ _ _ _ _ _ _ (q + 1) _ _ _ _ _ _ = _; rw [wn_s (by decide), f0_406]; rfl
theorem f0_409 : at1 code 409 = some (.ifCond .eq 7) := at1_of at_409 rfl (by decide)
theorem s0_409 : V0 l Z b K (q + 1) 409 ls st H cN sN = (popI st fun x r => if x = 0 then V0 l Z b K q 416 ls r H cN sN else V0 l Z b K q 412 ls r H cN sN) := by show Wn _ _ _ _ _ _ _ _ _ _ _ _ _ _ _ (q + 1) _ _ _ _ _ _ = _; rw [wn_s (by decide), f0_409]; rfl
theorem f0_412 : at1 code 412 = some (.iconst 1) := at1_of at_412 rfl (by decide)
theorem s0_412 : V0 l Z b K (q + 1) 412 ls st H cN sN = (V0 l Z b K q 413 ls (.int 1 :: st) H cN sN) := by show Wn _ _ _ _ _ _ _ _ _ _ _ _ _ _ _ (q + 1) _ _ _ _ _ _ = _; rw [wn_s (by decide), f0_412]; rfl
theorem f0_413 : at1 code 413 = some (.goto 4) := at1_of at_413 rfl (by decide)
theorem s0_413 : V0 l Z b K (q + 1) 413 ls st H cN sN = (V0 l Z b K q 417 ls st H cN sN) := by show Wn _ _ _ _ _ _ _ _ _ _ _ _ _ _ _ (q + 1) _ _ _ _ _ _ = _; rw [wn_s (by decide), f0_413]; rfl
theorem f0_416 : at1 code 416 = some (.iconst 0) := at1_of at_416 rfl (by decide)
theorem s0_416 : V0 l Z b K (q + 1) 416 ls st H cN sN = (V0 l Z b K q 417 ls (.int 0 :: st) H cN sN) := by show Wn _ _ _ _ _ _ _ _ _ _ _ _ _ _ _ (q + 1) _ _ _ _ _ _ = _; rw [wn_s (by decide), f0_416]; rfl
theorem f0_417 : at1 code 417 = some (.istore 10) := at1_of at_417 rfl (by decide)
theorem s0_417 : V0 l Z b K (q + 1) 417 ls st H cN sN = (popI st fun v r => sto1 ls 10 (.int v) fun l' => V0 l Z b K q 419 l' r H cN sN) := by show Wn _ _ _ _ _ _ _ _ _ _ _ _ _ _ _ (q + 1) _ _ _ _ _ _ = _; rw [wn_s (by decide), f0_417]; rfl
theorem f0_419 : at1 code 419 = some (.iload 10) := at1_of at_419 rfl (by decide)
theorem s0_419 : V0 l Z b K (q + 1) 419 ls st H cN sN = (ldI ls 10 fun v => V0 l Z b K q 421 ls (.int v :: st) H cN sN) := by show Wn _ _ _ _ _ _ _ _ _ _ _ _ _ _ _ (q + 1) _ _ _ _ _ _ = _; rw [wn_s (by decide), f0_419]; rfl
theorem f0_421 : at1 code 421 = some (.ifCond .eq 24) := at1_of at_421 rfl (by decide)
theorem s0_421 : V0 l Z b K (q + 1) 421 ls st H cN sN = (popI st fun x r => if x = 0 then V0 l Z b K q 445 ls r H cN sN else V0 l Z b K q 424 ls r H cN sN) := by show Wn _ _ _ _ _ _ _ _ _ _ _ _ _ _ _ (q + 1) _ _ _ _ _ _ = _; rw [wn_s (by decide), f0_421]; rfl
theorem f0_424 : at1 code 424 = some (.aload 5) := at1_of at_424 rfl (by decide)
theorem s0_424 : V0 l Z b K (q + 1) 424 ls st H cN sN = (ldA ls 5 fun v => V0 l Z b K q 426 ls (v :: st) H cN sN) := by show Wn _ _ _ _ _ _ _ _ _ _ _ _ _ _ _ (q + 1) _ _ _ _ _ _ = _; rw [wn_s (by decide), f0_424]; rfl
theorem f0_426 : at1 code 426 = some (.bipush 9) := at1_of at_426 rfl (by decide)
theorem s0_426 : V0 l Z b K (q + 1) 426 ls st H cN sN = (V0 l Z b K q 428 ls (.int 9 :: st) H cN sN) := by show Wn _ _ _ _ _ _ _ _ _ _ _ _ _ _ _ (q + 1) _ _ _ _ _ _ = _; rw [wn_s (by decide), f0_426]; rfl
theorem f0_428 : at1 code 428 = some (.iload_n 3) := at1_of at_428 rfl (by decide)
theorem s0_428 : V0 l Z b K (q + 1) 428 ls st H cN sN = (ldI ls 3 fun v => V0 l Z b K q 429 ls (.int v :: st) H cN sN) := by show Wn _ _ _ _ _ _ _ _ _ _ _ _ _ _ _ (q + 1) _ _ _ _ _ _ = _; rw [wn_s (by decide), f0_428]; rfl
theorem f0_429 : at1 code 429 = some (.iload 9) := at1_of at_429 rfl (by decide)
theorem s0_429 : V0 l Z b K (q + 1) 429 ls st H cN sN = (ldI ls 9 fun v => V0 l Z b K q 431 ls (.int v :: st) H cN sN) := by show Wn _ _ _ _ _ _ _ _ _ _ _ _ _ _ _ (q + 1) _ _ _ _ _ _ = _; rw [wn_s (by decide), f0_429]; rfl
theorem f0_431 : at1 code 431 = some (.lload 7) := at1_of at_431 rfl (by decide)
theorem s0_431 : V0 l Z b K (q + 1) 431 ls st H cN sN = (ldJ ls 7 fun v => V0 l Z b K q 433 ls (.long v :: st) H cN sN) := by show Wn _ _ _ _ _ _ _ _ _ _ _ _ _ _ _ (q + 1) _ _ _ _ _ _ = _; rw [wn_s (by decide), f0_431]; rfl
theorem f0_433 : at1 code 433 = some (.iload 4) := at1_of at_433 rfl (by decide)
theorem s0_433 : V0 l Z b K (q + 1) 433 ls st H cN sN = (ldI ls 4 fun v => V0 l Z b K q 435 ls (.int v :: st) H cN sN) := by show Wn _ _ _ _ _ _ _ _ _ _ _ _ _ _ _ (q + 1) _ _ _ _ _ _ = _; rw [wn_s (by decide), f0_433]; rfl
theorem f0_435 : at1 code 435 = some (.invokestatic 23) := at1_of at_435 rfl (by decide)
theorem s0_435 : V0 l Z b K (q + 1) 435 ls st H cN sN = (G0 l Z b K 435 ls st H cN sN) := by show Wn _ _ _ _ _ _ _ _ _ _ _ _ _ _ _ (q + 1) _ _ _ _ _ _ = _; rw [wn_s (by decide), f0_435]; rfl
theorem f0_438 : at1 code 438 = some (.ifCond .eq 7) := at1_of at_438 rfl (by decide)
theorem s0_438 : V0 l Z b K (q + 1) 438 ls st H cN sN = (popI st fun x r => if x = 0 then V0 l Z b K q 445 ls r H cN sN else V0 l Z b K q 441 ls r H cN sN) := by show Wn _ _ _ _ _ _ _ _ _ _ _ _ _ _ _ (q + 1) _ _ _ _ _ _ = _; rw [wn_s (by decide), f0_438]; rfl
theorem f0_441 : at1 code 441 = some (.iconst 1) := at1_of at_441 rfl (by decide)
theorem s0_441 : V0 l Z b K (q + 1) 441 ls st H cN sN = (V0 l Z b K q 442 ls (.int 1 :: st) H cN sN) := by show Wn _ _ _ _ _ _ _ _ _ _ _ _ _ _ _ (q + 1) _ _ _ _ _ _ = _; rw [wn_s (by decide), f0_441]; rfl
theorem f0_442 : at1 code 442 = some (.goto 4) := at1_of at_442 rfl (by decide)
theorem s0_442 : V0 l Z b K (q + 1) 442 ls st H cN sN = (V0 l Z b K q 446 ls st H cN sN) := by show Wn _ _ _ _ _ _ _ _ _ _ _ _ _ _ _ (q + 1) _ _ _ _ _ _ = _; rw [wn_s (by decide), f0_442]; rfl
theorem f0_445 : at1 code 445 = some (.iconst 0) := at1_of at_445 rfl (by decide)
theorem s0_445 : V0 l Z b K (q + 1) 445 ls st H cN sN = (V0 l Z b K q 446 ls (.int 0 :: st) H cN sN) := by show Wn _ _ _ _ _ _ _ _ _ _ _ _ _ _ _ (q + 1) _ _ _ _ _ _ = _; rw [wn_s (by decide), f0_445]; rfl
theorem f0_446 : at1 code 446 = some (.istore 10) := at1_of at_446 rfl (by decide)
theorem s0_446 : V0 l Z b K (q + 1) 446 ls st H cN sN = (popI st fun v r => sto1 ls 10 (.int v) fun l' => V0 l Z b K q 448 l' r H cN sN) := by show Wn _ _ _ _ _ _ _ _ _ _ _ _ _ _ _ (q + 1) _ _ _ _ _ _ = _; rw [wn_s (by decide), f0_446]; rfl
theorem f0_448 : at1 code 448 = some (.iload 10) := at1_of at_448 rfl (by decide)
theorem s0_448 : V0 l Z b K (q + 1) 448 ls st H cN sN = (ldI ls 10 fun v => V0 l Z b K q 450 ls (.int v :: st) H cN sN) := by show Wn _ _ _ _ _ _ _ _ _ _ _ _ _ _ _ (q + 1) _ _ _ _ _ _ = _; rw [wn_s (by decide), f0_448]; rfl
theorem f0_450 : at1 code 450 = some (.ireturn) := at1_of at_450 rfl (by decide)
theorem s0_450 : V0 l Z b K (q + 1) 450 ls st H cN sN = (popI st fun x r => if cN ≤ 16 ∧ sN ≤ 128 then K (some (.int (nar .boolean x))) H else False) := by show Wn _ _ _ _ _ _ _ _ _ _ _ _ _ _ _ (q + 1) _ _ _ _ _ _ = _; rw [wn_s (by decide), f0_450]; rfl
theorem S0 : type_of% @z0 ∧ type_of% @s0_0 ∧ type_of% @s0_1 ∧ type_of% @s0_2 ∧ type_of% @s0_3 ∧ type_of% @s0_4 ∧ type_of% @s0_5 ∧ type_of% @s0_6 ∧ type_of% @s0_8 ∧ type_of% @s0_10 ∧ type_of% @s0_12 ∧ type_of% @s0_13 ∧ type_of% @s0_14 ∧ type_of% @s0_16 ∧ type_of% @s0_17 ∧ type_of% @s0_18 ∧ type_of% @s0_19 ∧ type_of% @s0_21 ∧ type_of% @s0_22 ∧ type_of% @s0_23 ∧ type_of% @s0_24 ∧ type_of% @s0_26 ∧ type_of% @s0_27 ∧ type_of% @s0_28 ∧ type_of% @s0_29 ∧ type_of% @s0_31 ∧ type_of% @s0_32 ∧ type_of% @s0_33 ∧ type_of% @s0_34 ∧ type_of% @s0_36 ∧ type_of% @s0_37 ∧ type_of% @s0_38 ∧ type_of% @s0_39 ∧ type_of% @s0_41 ∧ type_of% @s0_42 ∧ type_of% @s0_43 ∧ type_of% @s0_45 ∧ type_of% @s0_47 ∧ type_of% @s0_48 ∧ type_of% @s0_49 ∧ type_of% @s0_51 ∧ type_of% @s0_53 ∧ type_of% @s0_54 ∧ type_of% @s0_55 ∧ type_of% @s0_57 ∧ type_of% @s0_59 ∧ type_of% @s0_60 ∧ type_of% @s0_61 ∧ type_of% @s0_63 ∧ type_of% @s0_65 ∧ type_of% @s0_66 ∧ type_of% @s0_68 ∧ type_of% @s0_70 ∧ type_of% @s0_71 ∧ type_of% @s0_72 ∧ type_of% @s0_75 ∧ type_of% @s0_77 ∧ type_of% @s0_78 ∧ type_of% @s0_79 ∧ type_of% @s0_82 ∧ type_of% @s0_83 ∧ type_of% @s0_85 ∧ type_of% @s0_87 ∧ type_of% @s0_90 ∧ type_of% @s0_91 ∧ type_of% @s0_94 ∧ type_of% @s0_95 ∧ type_of% @s0_97 ∧ type_of% @s0_100 ∧ type_of% @s0_102 ∧ type_of% @s0_105 ∧ type_of% @s0_106 ∧ type_of% @s0_109 ∧ type_of% @s0_110 ∧ type_of% @s0_112 ∧ type_of% @s0_115 ∧ type_of% @s0_117 ∧ type_of% @s0_120 ∧ type_of% @s0_121 ∧ type_of% @s0_124 ∧ type_of% @s0_125 ∧ type_of% @s0_127 ∧ type_of% @s0_130 ∧ type_of% @s0_132 ∧ type_of% @s0_135 ∧ type_of% @s0_136 ∧ type_of% @s0_139 ∧ type_of% @s0_140 ∧ type_of% @s0_142 ∧ type_of% @s0_145 ∧ type_of% @s0_146 ∧ type_of% @s0_148 ∧ type_of% @s0_150 ∧ type_of% @s0_151 ∧ type_of% @s0_153 ∧ type_of% @s0_154 ∧ type_of% @s0_157 ∧ type_of% @s0_158 ∧ type_of% @s0_161 ∧ type_of% @s0_162 ∧ type_of% @s0_164 ∧ type_of% @s0_166 ∧ type_of% @s0_169 ∧ type_of% @s0_171 ∧ type_of% @s0_172 ∧ type_of% @s0_173 ∧ type_of% @s0_175 ∧ type_of% @s0_177 ∧ type_of% @s0_179 ∧ type_of% @s0_182 ∧ type_of% @s0_185 ∧ type_of% @s0_186 ∧ type_of% @s0_189 ∧ type_of% @s0_190 ∧ type_of% @s0_192 ∧ type_of% @s0_194 ∧ type_of% @s0_197 ∧ type_of% @s0_199 ∧ type_of% @s0_200 ∧ type_of% @s0_201 ∧ type_of% @s0_203 ∧ type_of% @s0_205 ∧ type_of% @s0_207 ∧ type_of% @s0_210 ∧ type_of% @s0_213 ∧ type_of% @s0_214 ∧ type_of% @s0_217 ∧ type_of% @s0_218 ∧ type_of% @s0_220 ∧ type_of% @s0_222 ∧ type_of% @s0_225 ∧ type_of% @s0_227 ∧ type_of% @s0_228 ∧ type_of% @s0_229 ∧ type_of% @s0_231 ∧ type_of% @s0_233 ∧ type_of% @s0_235 ∧ type_of% @s0_238 ∧ type_of% @s0_241 ∧ type_of% @s0_242 ∧ type_of% @s0_245 ∧ type_of% @s0_246 ∧ type_of% @s0_248 ∧ type_of% @s0_250 ∧ type_of% @s0_253 ∧ type_of% @s0_255 ∧ type_of% @s0_256 ∧ type_of% @s0_257 ∧ type_of% @s0_259 ∧ type_of% @s0_261 ∧ type_of% @s0_263 ∧ type_of% @s0_266 ∧ type_of% @s0_269 ∧ type_of% @s0_270 ∧ type_of% @s0_273 ∧ type_of% @s0_274 ∧ type_of% @s0_276 ∧ type_of% @s0_278 ∧ type_of% @s0_281 ∧ type_of% @s0_283 ∧ type_of% @s0_284 ∧ type_of% @s0_285 ∧ type_of% @s0_287 ∧ type_of% @s0_289 ∧ type_of% @s0_291 ∧ type_of% @s0_294 ∧ type_of% @s0_297 ∧ type_of% @s0_298 ∧ type_of% @s0_301 ∧ type_of% @s0_302 ∧ type_of% @s0_304 ∧ type_of% @s0_306 ∧ type_of% @s0_309 ∧ type_of% @s0_311 ∧ type_of% @s0_312 ∧ type_of% @s0_313 ∧ type_of% @s0_315 ∧ type_of% @s0_317 ∧ type_of% @s0_319 ∧ type_of% @s0_322 ∧ type_of% @s0_325 ∧ type_of% @s0_326 ∧ type_of% @s0_329 ∧ type_of% @s0_330 ∧ type_of% @s0_332 ∧ type_of% @s0_334 ∧ type_of% @s0_337 ∧ type_of% @s0_339 ∧ type_of% @s0_341 ∧ type_of% @s0_342 ∧ type_of% @s0_344 ∧ type_of% @s0_346 ∧ type_of% @s0_348 ∧ type_of% @s0_351 ∧ type_of% @s0_354 ∧ type_of% @s0_355 ∧ type_of% @s0_358 ∧ type_of% @s0_359 ∧ type_of% @s0_361 ∧ type_of% @s0_363 ∧ type_of% @s0_366 ∧ type_of% @s0_368 ∧ type_of% @s0_370 ∧ type_of% @s0_371 ∧ type_of% @s0_373 ∧ type_of% @s0_375 ∧ type_of% @s0_377 ∧ type_of% @s0_380 ∧ type_of% @s0_383 ∧ type_of% @s0_384 ∧ type_of% @s0_387 ∧ type_of% @s0_388 ∧ type_of% @s0_390 ∧ type_of% @s0_392 ∧ type_of% @s0_395 ∧ type_of% @s0_397 ∧ type_of% @s0_399 ∧ type_of% @s0_400 ∧ type_of% @s0_402 ∧ type_of% @s0_404 ∧ type_of% @s0_406 ∧ type_of% @s0_409 ∧ type_of% @s0_412 ∧ type_of% @s0_413 ∧ type_of% @s0_416 ∧ type_of% @s0_417 ∧ type_of% @s0_419 ∧ type_of% @s0_421 ∧ type_of% @s0_424 ∧ type_of% @s0_426 ∧ type_of% @s0_428 ∧ type_of% @s0_429 ∧ type_of% @s0_431 ∧ type_of% @s0_433 ∧ type_of% @s0_435 ∧ type_of% @s0_438 ∧ type_of% @s0_441 ∧ type_of% @s0_442 ∧ type_of% @s0_445 ∧ type_of% @s0_446 ∧ type_of% @s0_448 ∧ type_of% @s0_450 := ⟨@z0, @s0_0, @s0_1, @s0_2, @s0_3, @s0_4, @s0_5, @s0_6, @s0_8, @s0_10, @s0_12, @s0_13, @s0_14, @s0_16, @s0_17, @s0_18, @s0_19, @s0_21, @s0_22, @s0_23, @s0_24, @s0_26, @s0_27, @s0_28, @s0_29, @s0_31, @s0_32, @s0_33, @s0_34, @s0_36, @s0_37, @s0_38, @s0_39, @s0_41, @s0_42, @s0_43, @s0_45, @s0_47, @s0_48, @s0_49, @s0_51, @s0_53, @s0_54, @s0_55, @s0_57, @s0_59, @s0_60, @s0_61, @s0_63, @s0_65, @s0_66, @s0_68, @s0_70, @s0_71, @s0_72, @s0_75, @s0_77, @s0_78, @s0_79, @s0_82, @s0_83, @s0_85, @s0_87, @s0_90, @s0_91, @s0_94, @s0_95, @s0_97, @s0_100, @s0_102, @s0_105, @s0_106, @s0_109, @s0_110, @s0_112, @s0_115, @s0_117, @s0_120, @s0_121, @s0_124, @s0_125, @s0_127, @s0_130, @s0_132, @s0_135, @s0_136, @s0_139, @s0_140, @s0_142, @s0_145, @s0_146, @s0_148, @s0_150, @s0_151, @s0_153, @s0_154, @s0_157, @s0_158, @s0_161, @s0_162, @s0_164, @s0_166, @s0_169, @s0_171, @s0_172, @s0_173, @s0_175, @s0_177, @s0_179, @s0_182, @s0_185, @s0_186, @s0_189, @s0_190, @s0_192, @s0_194, @s0_197, @s0_199, @s0_200, @s0_201, @s0_203, @s0_205, @s0_207, @s0_210, @s0_213, @s0_214, @s0_217, @s0_218, @s0_220, @s0_222, @s0_225, @s0_227, @s0_228, @s0_229, @s0_231, @s0_233, @s0_235, @s0_238, @s0_241, @s0_242, @s0_245, @s0_246, @s0_248, @s0_250, @s0_253, @s0_255, @s0_256, @s0_257, @s0_259, @s0_261, @s0_263, @s0_266, @s0_269, @s0_270, @s0_273, @s0_274, @s0_276, @s0_278, @s0_281, @s0_283, @s0_284, @s0_285, @s0_287, @s0_289, @s0_291, @s0_294, @s0_297, @s0_298, @s0_301, @s0_302, @s0_304, @s0_306, @s0_309, @s0_311, @s0_312, @s0_313, @s0_315, @s0_317, @s0_319, @s0_322, @s0_325, @s0_326, @s0_329, @s0_330, @s0_332, @s0_334, @s0_337, @s0_339, @s0_341, @s0_342, @s0_344, @s0_346, @s0_348, @s0_351, @s0_354, @s0_355, @s0_358, @s0_359, @s0_361, @s0_363, @s0_366, @s0_368, @s0_370, @s0_371, @s0_373, @s0_375, @s0_377, @s0_380, @s0_383, @s0_384, @s0_387, @s0_388, @s0_390, @s0_392, @s0_395, @s0_397, @s0_399, @s0_400, @s0_402, @s0_404, @s0_406, @s0_409, @s0_412, @s0_413, @s0_416, @s0_417, @s0_419, @s0_421, @s0_424, @s0_426, @s0_428, @s0_429, @s0_431, @s0_433, @s0_435, @s0_438, @s0_441, @s0_442, @s0_445, @s0_446, @s0_448, @s0_450⟩
theorem ef0 (m : MethodId) (x0 : Int32) (x1 : Int32) (x2 : Int32) : entryFrame m [.int x0, .int x1, .int x2].toArray maxLocals = mkF m 0 [.val (.int x0), .val (.int x1), .val (.int x2), .unset, .unset, .unset, .unset, .unset, .unset, .unset, .unset].toArray [] := by first | (simp [entryFrame, mkF, argsToLocals, Value.category, maxLocals, List.replicate]; done) | rfl
end Body0
def R1 : Room := { frames := 0, cells := 0, slots := 0, locals := 0 }
def y1 : MethodName := ⟨"com/example/twinsift/twinsift/cover/Varint", "write", "([BII)I"⟩
def G1 (l : Launch) (Z : State) (b : Heap) (K : Option Value → List Cel → Prop) : Cont := G prog_55_method_3_code "com/example/twinsift/twinsift/cover/Varint" "write" 5 (some .int) R1 tables_1 l Z b 0 0 K
def V1 (l : Launch) (Z : State) (b : Heap) (K : Option Value → List Cel → Prop) : Nat → Cont := Wn [] prog_55_method_3_code [] [] [] [] [] [] (some .int) R1 b.size 0 0 K (G1 l Z b K)
section Body1
variable {l : Launch} {Z : State} {b : Heap} {K : Option Value → List Cel → Prop} {q : Nat} {ls : List Slot} {st : List Value} {H : List Cel} {cN sN : Nat}
theorem r1 (q : Nat) {pc : Nat} (h : V1 l Z b K q pc ls st H cN sN) : G1 l Z b K pc ls st H cN sN := G.run q (by intro x hx; cases hx) (by intro x hx; cases hx) (by intro x hx; cases hx) (by intro x hx; cases hx) (by intro x hx; cases hx) (by intro x hx; cases hx) h
theorem z1 {pc : Nat} : V1 l Z b K 0 pc ls st H cN sN = G1 l Z b K pc ls st H cN sN := propext Iff.rfl
theorem f1_0 : at1 prog_55_method_3_code 0 = some (.iload_n 2) := by decide +kernel
theorem s1_0 : V1 l Z b K (q + 1) 0 ls st H cN sN = (ldI ls 2 fun v => V1 l Z b K q 1 ls (.int v :: st) H cN sN) := by show Wn _ _ _ _ _ _ _ _ _ _ _ _ _ _ _ (q + 1) _ _ _ _ _ _ = _; rw [wn_s (by decide), f1_0]; rfl
theorem f1_1 : at1 prog_55_method_3_code 1 = some (.istore_n 3) := by decide +kernel
theorem s1_1 : V1 l Z b K (q + 1) 1 ls st H cN sN = (popI st fun v r => sto1 ls 3 (.int v) fun l' => V1 l Z b K q 2 l' r H cN sN) := by show Wn _ _ _ _ _ _ _ _ _ _ _ _ _ _ _ (q + 1) _ _ _ _ _ _ = _; rw [wn_s (by decide), f1_1]; rfl
theorem f1_2 : at1 prog_55_method_3_code 2 = some (.iload_n 1) := by decide +kernel
theorem s1_2 : V1 l Z b K (q + 1) 2 ls st H cN sN = (ldI ls 1 fun v => V1 l Z b K q 3 ls (.int v :: st) H cN sN) := by show Wn _ _ _ _ _ _ _ _ _ _ _ _ _ _ _ (q + 1) _ _ _ _ _ _ = _; rw [wn_s (by decide), f1_2]; rfl
theorem f1_3 : at1 prog_55_method_3_code 3 = some (.istore 4) := by decide +kernel
theorem s1_3 : V1 l Z b K (q + 1) 3 ls st H cN sN = (popI st fun v r => sto1 ls 4 (.int v) fun l' => V1 l Z b K q 5 l' r H cN sN) := by show Wn _ _ _ _ _ _ _ _ _ _ _ _ _ _ _ (q + 1) _ _ _ _ _ _ = _; rw [wn_s (by decide), f1_3]; rfl
theorem f1_5 : at1 prog_55_method_3_code 5 = some (.iload_n 3) := by decide +kernel
theorem s1_5 : V1 l Z b K (q + 1) 5 ls st H cN sN = (ldI ls 3 fun v => V1 l Z b K q 6 ls (.int v :: st) H cN sN) := by show Wn _ _ _ _ _ _ _ _ _ _ _ _ _ _ _ (q + 1) _ _ _ _ _ _ = _; rw [wn_s (by decide), f1_5]; rfl
theorem f1_6 : at1 prog_55_method_3_code 6 = some (.bipush (-128)) := by decide +kernel
theorem s1_6 : V1 l Z b K (q + 1) 6 ls st H cN sN = (V1 l Z b K q 8 ls (.int (-128) :: st) H cN sN) := by show Wn _ _ _ _ _ _ _ _ _ _ _ _ _ _ _ (q + 1) _ _ _ _ _ _ = _; rw [wn_s (by decide), f1_6]; rfl
theorem f1_8 : at1 prog_55_method_3_code 8 = some (.iand) := by decide +kernel
theorem s1_8 : V1 l Z b K (q + 1) 8 ls st H cN sN = (popI st fun y r => popI r fun x r => V1 l Z b K q 9 ls (.int (x &&& y) :: r) H cN sN) := by show Wn _ _ _ _ _ _ _ _ _ _ _ _ _ _ _ (q + 1) _ _ _ _ _ _ = _; rw [wn_s (by decide), f1_8]; rfl
theorem f1_9 : at1 prog_55_method_3_code 9 = some (.ifCond .eq 27) := by decide +kernel
theorem s1_9 : V1 l Z b K (q + 1) 9 ls st H cN sN = (popI st fun x r => if x = 0 then V1 l Z b K q 36 ls r H cN sN else V1 l Z b K q 12 ls r H cN sN) := by show Wn _ _ _ _ _ _ _ _ _ _ _ _ _ _ _ (q + 1) _ _ _ _ _ _ = _; rw [wn_s (by decide), f1_9]; rfl
theorem f1_12 : at1 prog_55_method_3_code 12 = some (.aload_n 0) := by decide +kernel
theorem s1_12 : V1 l Z b K (q + 1) 12 ls st H cN sN = (ldA ls 0 fun v => V1 l Z b K q 13 ls (v :: st) H cN sN) := by show Wn _ _ _ _ _ _ _ _ _ _ _ _ _ _ _ (q + 1) _ _ _ _ _ _ = _; rw [wn_s (by decide), f1_12]; rfl
theorem f1_13 : at1 prog_55_method_3_code 13 = some (.iload 4) := by decide +kernel
theorem s1_13 : V1 l Z b K (q + 1) 13 ls st H cN sN = (ldI ls 4 fun v => V1 l Z b K q 15 ls (.int v :: st) H cN sN) := by show Wn _ _ _ _ _ _ _ _ _ _ _ _ _ _ _ (q + 1) _ _ _ _ _ _ = _; rw [wn_s (by decide), f1_13]; rfl
theorem f1_15 : at1 prog_55_method_3_code 15 = some (.iinc 4 1) := by decide +kernel
theorem s1_15 : V1 l Z b K (q + 1) 15 ls st H cN sN = (ldI ls 4 fun v => setL ls 4 (.val (.int (v + 1))) fun l' => V1 l Z b K q 18 l' st H cN sN) := by show Wn _ _ _ _ _ _ _ _ _ _ _ _ _ _ _ (q + 1) _ _ _ _ _ _ = _; rw [wn_s (by decide), f1_15]; rfl
theorem f1_18 : at1 prog_55_method_3_code 18 = some (.iload_n 3) := by decide +kernel
theorem s1_18 : V1 l Z b K (q + 1) 18 ls st H cN sN = (ldI ls 3 fun v => V1 l Z b K q 19 ls (.int v :: st) H cN sN) := by show Wn _ _ _ _ _ _ _ _ _ _ _ _ _ _ _ (q + 1) _ _ _ _ _ _ = _; rw [wn_s (by decide), f1_18]; rfl
theorem f1_19 : at1 prog_55_method_3_code 19 = some (.bipush 127) := by decide +kernel
theorem s1_19 : V1 l Z b K (q + 1) 19 ls st H cN sN = (V1 l Z b K q 21 ls (.int 127 :: st) H cN sN) := by show Wn _ _ _ _ _ _ _ _ _ _ _ _ _ _ _ (q + 1) _ _ _ _ _ _ = _; rw [wn_s (by decide), f1_19]; rfl
theorem f1_21 : at1 prog_55_method_3_code 21 = some (.iand) := by decide +kernel
theorem s1_21 : V1 l Z b K (q + 1) 21 ls st H cN sN = (popI st fun y r => popI r fun x r => V1 l Z b K q 22 ls (.int (x &&& y) :: r) H cN sN) := by show Wn _ _ _ _ _ _ _ _ _ _ _ _ _ _ _ (q + 1) _ _ _ _ _ _ = _; rw [wn_s (by decide), f1_21]; rfl
theorem f1_22 : at1 prog_55_method_3_code 22 = some (.sipush 128) := by decide +kernel
theorem s1_22 : V1 l Z b K (q + 1) 22 ls st H cN sN = (V1 l Z b K q 25 ls (.int 128 :: st) H cN sN) := by show Wn _ _ _ _ _ _ _ _ _ _ _ _ _ _ _ (q + 1) _ _ _ _ _ _ = _; rw [wn_s (by decide), f1_22]; rfl
theorem f1_25 : at1 prog_55_method_3_code 25 = some (.ior) := by decide +kernel
theorem s1_25 : V1 l Z b K (q + 1) 25 ls st H cN sN = (popI st fun y r => popI r fun x r => V1 l Z b K q 26 ls (.int (x ||| y) :: r) H cN sN) := by show Wn _ _ _ _ _ _ _ _ _ _ _ _ _ _ _ (q + 1) _ _ _ _ _ _ = _; rw [wn_s (by decide), f1_25]; rfl
theorem f1_26 : at1 prog_55_method_3_code 26 = some (.i2b) := by decide +kernel
theorem s1_26 : V1 l Z b K (q + 1) 26 ls st H cN sN = (popI st fun x r => V1 l Z b K q 27 ls (.int (nar .byte x) :: r) H cN sN) := by show Wn _ _ _ _ _ _ _ _ _ _ _ _ _ _ _ (q + 1) _ _ _ _ _ _ = _; rw [wn_s (by decide), f1_26]; rfl
theorem f1_27 : at1 prog_55_method_3_code 27 = some (.bastore) := by decide +kernel
theorem s1_27 : V1 l Z b K (q + 1) 27 ls st H cN sN = (popI st fun x r => popI r fun j r => popR r fun a r => arr H b.size a fun i ty vs => if ty = .byte then idx vs j fun _ => setN vs j.toNatClampNeg (.int (nar .byte x)) fun vs' => setH H i (.inl (.byte, vs')) fun H' => V1 l Z b K q 28 ls r H' cN sN else False) := by show Wn _ _ _ _ _ _ _ _ _ _ _ _ _ _ _ (q + 1) _ _ _ _ _ _ = _; rw [wn_s (by decide), f1_27]; rfl
theorem f1_28 : at1 prog_55_method_3_code 28 = some (.iload_n 3) := by decide +kernel
theorem s1_28 : V1 l Z b K (q + 1) 28 ls st H cN sN = (ldI ls 3 fun v => V1 l Z b K q 29 ls (.int v :: st) H cN sN) := by show Wn _ _ _ _ _ _ _ _ _ _ _ _ _ _ _ (q + 1) _ _ _ _ _ _ = _; rw [wn_s (by decide), f1_28]; rfl
theorem f1_29 : at1 prog_55_method_3_code 29 = some (.bipush 7) := by decide +kernel
theorem s1_29 : V1 l Z b K (q + 1) 29 ls st H cN sN = (V1 l Z b K q 31 ls (.int 7 :: st) H cN sN) := by show Wn _ _ _ _ _ _ _ _ _ _ _ _ _ _ _ (q + 1) _ _ _ _ _ _ = _; rw [wn_s (by decide), f1_29]; rfl
theorem f1_31 : at1 prog_55_method_3_code 31 = some (.iushr) := by decide +kernel
theorem s1_31 : V1 l Z b K (q + 1) 31 ls st H cN sN = (popI st fun y r => popI r fun x r => V1 l Z b K q 32 ls (.int (XT.ushr x y) :: r) H cN sN) := by show Wn _ _ _ _ _ _ _ _ _ _ _ _ _ _ _ (q + 1) _ _ _ _ _ _ = _; rw [wn_s (by decide), f1_31]; rfl
theorem f1_32 : at1 prog_55_method_3_code 32 = some (.istore_n 3) := by decide +kernel
theorem s1_32 : V1 l Z b K (q + 1) 32 ls st H cN sN = (popI st fun v r => sto1 ls 3 (.int v) fun l' => V1 l Z b K q 33 l' r H cN sN) := by show Wn _ _ _ _ _ _ _ _ _ _ _ _ _ _ _ (q + 1) _ _ _ _ _ _ = _; rw [wn_s (by decide), f1_32]; rfl
theorem f1_33 : at1 prog_55_method_3_code 33 = some (.goto (-28)) := by decide +kernel
theorem s1_33 : V1 l Z b K (q + 1) 33 ls st H cN sN = (V1 l Z b K q 5 ls st H cN sN) := by show Wn _ _ _ _ _ _ _ _ _ _ _ _ _ _ _ (q + 1) _ _ _ _ _ _ = _; rw [wn_s (by decide), f1_33]; rfl
theorem f1_36 : at1 prog_55_method_3_code 36 = some (.aload_n 0) := by decide +kernel
theorem s1_36 : V1 l Z b K (q + 1) 36 ls st H cN sN = (ldA ls 0 fun v => V1 l Z b K q 37 ls (v :: st) H cN sN) := by show Wn _ _ _ _ _ _ _ _ _ _ _ _ _ _ _ (q + 1) _ _ _ _ _ _ = _; rw [wn_s (by decide), f1_36]; rfl
theorem f1_37 : at1 prog_55_method_3_code 37 = some (.iload 4) := by decide +kernel
theorem s1_37 : V1 l Z b K (q + 1) 37 ls st H cN sN = (ldI ls 4 fun v => V1 l Z b K q 39 ls (.int v :: st) H cN sN) := by show Wn _ _ _ _ _ _ _ _ _ _ _ _ _ _ _ (q + 1) _ _ _ _ _ _ = _; rw [wn_s (by decide), f1_37]; rfl
theorem f1_39 : at1 prog_55_method_3_code 39 = some (.iinc 4 1) := by decide +kernel
theorem s1_39 : V1 l Z b K (q + 1) 39 ls st H cN sN = (ldI ls 4 fun v => setL ls 4 (.val (.int (v + 1))) fun l' => V1 l Z b K q 42 l' st H cN sN) := by show Wn _ _ _ _ _ _ _ _ _ _ _ _ _ _ _ (q + 1) _ _ _ _ _ _ = _; rw [wn_s (by decide), f1_39]; rfl
theorem f1_42 : at1 prog_55_method_3_code 42 = some (.iload_n 3) := by decide +kernel
theorem s1_42 : V1 l Z b K (q + 1) 42 ls st H cN sN = (ldI ls 3 fun v => V1 l Z b K q 43 ls (.int v :: st) H cN sN) := by show Wn _ _ _ _ _ _ _ _ _ _ _ _ _ _ _ (q + 1) _ _ _ _ _ _ = _; rw [wn_s (by decide), f1_42]; rfl
theorem f1_43 : at1 prog_55_method_3_code 43 = some (.i2b) := by decide +kernel
theorem s1_43 : V1 l Z b K (q + 1) 43 ls st H cN sN = (popI st fun x r => V1 l Z b K q 44 ls (.int (nar .byte x) :: r) H cN sN) := by show Wn _ _ _ _ _ _ _ _ _ _ _ _ _ _ _ (q + 1) _ _ _ _ _ _ = _; rw [wn_s (by decide), f1_43]; rfl
theorem f1_44 : at1 prog_55_method_3_code 44 = some (.bastore) := by decide +kernel
theorem s1_44 : V1 l Z b K (q + 1) 44 ls st H cN sN = (popI st fun x r => popI r fun j r => popR r fun a r => arr H b.size a fun i ty vs => if ty = .byte then idx vs j fun _ => setN vs j.toNatClampNeg (.int (nar .byte x)) fun vs' => setH H i (.inl (.byte, vs')) fun H' => V1 l Z b K q 45 ls r H' cN sN else False) := by show Wn _ _ _ _ _ _ _ _ _ _ _ _ _ _ _ (q + 1) _ _ _ _ _ _ = _; rw [wn_s (by decide), f1_44]; rfl
theorem f1_45 : at1 prog_55_method_3_code 45 = some (.iload 4) := by decide +kernel
theorem s1_45 : V1 l Z b K (q + 1) 45 ls st H cN sN = (ldI ls 4 fun v => V1 l Z b K q 47 ls (.int v :: st) H cN sN) := by show Wn _ _ _ _ _ _ _ _ _ _ _ _ _ _ _ (q + 1) _ _ _ _ _ _ = _; rw [wn_s (by decide), f1_45]; rfl
theorem f1_47 : at1 prog_55_method_3_code 47 = some (.ireturn) := by decide +kernel
theorem s1_47 : V1 l Z b K (q + 1) 47 ls st H cN sN = (popI st fun x r => if cN ≤ 0 ∧ sN ≤ 0 then K (some (.int x)) H else False) := by show Wn _ _ _ _ _ _ _ _ _ _ _ _ _ _ _ (q + 1) _ _ _ _ _ _ = _; rw [wn_s (by decide), f1_47]; rfl
theorem S1 : type_of% @z1 ∧ type_of% @s1_0 ∧ type_of% @s1_1 ∧ type_of% @s1_2 ∧ type_of% @s1_3 ∧ type_of% @s1_5 ∧ type_of% @s1_6 ∧ type_of% @s1_8 ∧ type_of% @s1_9 ∧ type_of% @s1_12 ∧ type_of% @s1_13 ∧ type_of% @s1_15 ∧ type_of% @s1_18 ∧ type_of% @s1_19 ∧ type_of% @s1_21 ∧ type_of% @s1_22 ∧ type_of% @s1_25 ∧ type_of% @s1_26 ∧ type_of% @s1_27 ∧ type_of% @s1_28 ∧ type_of% @s1_29 ∧ type_of% @s1_31 ∧ type_of% @s1_32 ∧ type_of% @s1_33 ∧ type_of% @s1_36 ∧ type_of% @s1_37 ∧ type_of% @s1_39 ∧ type_of% @s1_42 ∧ type_of% @s1_43 ∧ type_of% @s1_44 ∧ type_of% @s1_45 ∧ type_of% @s1_47 := ⟨@z1, @s1_0, @s1_1, @s1_2, @s1_3, @s1_5, @s1_6, @s1_8, @s1_9, @s1_12, @s1_13, @s1_15, @s1_18, @s1_19, @s1_21, @s1_22, @s1_25, @s1_26, @s1_27, @s1_28, @s1_29, @s1_31, @s1_32, @s1_33, @s1_36, @s1_37, @s1_39, @s1_42, @s1_43, @s1_44, @s1_45, @s1_47⟩
theorem ef1 (m : MethodId) (x0 : Nat) (x1 : Int32) (x2 : Int32) : entryFrame m [.ref x0, .int x1, .int x2].toArray 5 = mkF m 0 [.val (.ref x0), .val (.int x1), .val (.int x2), .unset, .unset].toArray [] := by first | (simp [entryFrame, mkF, argsToLocals, Value.category, maxLocals, List.replicate]; done) | rfl
theorem pn1 : plainFor y1 = true := by first | decide +kernel | exact plainFor_of_name (by simp [y1, plainName, overriddenIn])
theorem pd1 : parseMethodDescriptor "([BII)I" = some ⟨[(.array .byte), .int, .int], some .int⟩ := by decide +kernel
theorem c1 (x0 : Nat) (x1 : Int32) (x2 : Int32) (g : G1 l Z b K 0 [.val (.ref x0), .val (.int x1), .val (.int x2), .unset, .unset] [] H 0 0) : Con tables_1 l Z b y1 prog_55_method_3_code 5 (some .int) R1 [.ref x0, .int x1, .int x2] H K := G.con pn1 (fun m => ef1 m x0 x1 x2) g
end Body1
def R2 : Room := { frames := 0, cells := 0, slots := 0, locals := 0 }
def y2 : MethodName := ⟨"com/example/twinsift/twinsift/cover/VarintWritePinLaw", "same", "([BIIIJB)Z"⟩
def G2 (l : Launch) (Z : State) (b : Heap) (K : Option Value → List Cel → Prop) : Cont := G method_3_code "com/example/twinsift/twinsift/cover/VarintWritePinLaw" "same" 10 (some .boolean) R2 tables_1 l Z b 0 0 K
def V2 (l : Launch) (Z : State) (b : Heap) (K : Option Value → List Cel → Prop) : Nat → Cont := Wn [] method_3_code [] [(29, 127)] [] [] [] [] (some .boolean) R2 b.size 0 0 K (G2 l Z b K)
section Body2
variable {l : Launch} {Z : State} {b : Heap} {K : Option Value → List Cel → Prop} {q : Nat} {ls : List Slot} {st : List Value} {H : List Cel} {cN sN : Nat}
theorem r2 (q : Nat) {pc : Nat} (h : V2 l Z b K q pc ls st H cN sN) : G2 l Z b K pc ls st H cN sN := G.run q (by intro x hx; cases hx) (by intro x hx; simp only [List.mem_cons, List.not_mem_nil, or_false] at hx; rcases hx with rfl <;> first | exact List.mem_of_getElem? (i := 11) rfl) (by intro x hx; cases hx) (by intro x hx; cases hx) (by intro x hx; cases hx) (by intro x hx; cases hx) h
theorem z2 {pc : Nat} : V2 l Z b K 0 pc ls st H cN sN = G2 l Z b K pc ls st H cN sN := propext Iff.rfl
theorem f2_0 : at1 method_3_code 0 = some (.iload_n 1) := by decide +kernel
theorem s2_0 : V2 l Z b K (q + 1) 0 ls st H cN sN = (ldI ls 1 fun v => V2 l Z b K q 1 ls (.int v :: st) H cN sN) := by show Wn _ _ _ _ _ _ _ _ _ _ _ _ _ _ _ (q + 1) _ _ _ _ _ _ = _; rw [wn_s (by decide), f2_0]; rfl
theorem f2_1 : at1 method_3_code 1 = some (.iload_n 2) := by decide +kernel
theorem s2_1 : V2 l Z b K (q + 1) 1 ls st H cN sN = (ldI ls 2 fun v => V2 l Z b K q 2 ls (.int v :: st) H cN sN) := by show Wn _ _ _ _ _ _ _ _ _ _ _ _ _ _ _ (q + 1) _ _ _ _ _ _ = _; rw [wn_s (by decide), f2_1]; rfl
theorem f2_2 : at1 method_3_code 2 = some (.isub) := by decide +kernel
theorem s2_2 : V2 l Z b K (q + 1) 2 ls st H cN sN = (popI st fun y r => popI r fun x r => V2 l Z b K q 3 ls (.int (x - y) :: r) H cN sN) := by show Wn _ _ _ _ _ _ _ _ _ _ _ _ _ _ _ (q + 1) _ _ _ _ _ _ = _; rw [wn_s (by decide), f2_2]; rfl
theorem f2_3 : at1 method_3_code 3 = some (.istore 7) := by decide +kernel
theorem s2_3 : V2 l Z b K (q + 1) 3 ls st H cN sN = (popI st fun v r => sto1 ls 7 (.int v) fun l' => V2 l Z b K q 5 l' r H cN sN) := by show Wn _ _ _ _ _ _ _ _ _ _ _ _ _ _ _ (q + 1) _ _ _ _ _ _ = _; rw [wn_s (by decide), f2_3]; rfl
theorem f2_5 : at1 method_3_code 5 = some (.iload 7) := by decide +kernel
theorem s2_5 : V2 l Z b K (q + 1) 5 ls st H cN sN = (ldI ls 7 fun v => V2 l Z b K q 7 ls (.int v :: st) H cN sN) := by show Wn _ _ _ _ _ _ _ _ _ _ _ _ _ _ _ (q + 1) _ _ _ _ _ _ = _; rw [wn_s (by decide), f2_5]; rfl
theorem f2_7 : at1 method_3_code 7 = some (.ifCond .lt 9) := by decide +kernel
theorem s2_7 : V2 l Z b K (q + 1) 7 ls st H cN sN = (popI st fun x r => if x < 0 then V2 l Z b K q 16 ls r H cN sN else V2 l Z b K q 10 ls r H cN sN) := by show Wn _ _ _ _ _ _ _ _ _ _ _ _ _ _ _ (q + 1) _ _ _ _ _ _ = _; rw [wn_s (by decide), f2_7]; rfl
theorem f2_10 : at1 method_3_code 10 = some (.iload 7) := by decide +kernel
theorem s2_10 : V2 l Z b K (q + 1) 10 ls st H cN sN = (ldI ls 7 fun v => V2 l Z b K q 12 ls (.int v :: st) H cN sN) := by show Wn _ _ _ _ _ _ _ _ _ _ _ _ _ _ _ (q + 1) _ _ _ _ _ _ = _; rw [wn_s (by decide), f2_10]; rfl
theorem f2_12 : at1 method_3_code 12 = some (.iload_n 3) := by decide +kernel
theorem s2_12 : V2 l Z b K (q + 1) 12 ls st H cN sN = (ldI ls 3 fun v => V2 l Z b K q 13 ls (.int v :: st) H cN sN) := by show Wn _ _ _ _ _ _ _ _ _ _ _ _ _ _ _ (q + 1) _ _ _ _ _ _ = _; rw [wn_s (by decide), f2_12]; rfl
theorem f2_13 : at1 method_3_code 13 = some (.if_icmp .lt 14) := by decide +kernel
theorem s2_13 : V2 l Z b K (q + 1) 13 ls st H cN sN = (popI st fun y r => popI r fun x r => if x < y then V2 l Z b K q 27 ls r H cN sN else V2 l Z b K q 16 ls r H cN sN) := by show Wn _ _ _ _ _ _ _ _ _ _ _ _ _ _ _ (q + 1) _ _ _ _ _ _ = _; rw [wn_s (by decide), f2_13]; rfl
theorem f2_16 : at1 method_3_code 16 = some (.iload 6) := by decide +kernel
theorem s2_16 : V2 l Z b K (q + 1) 16 ls st H cN sN = (ldI ls 6 fun v => V2 l Z b K q 18 ls (.int v :: st) H cN sN) := by show Wn _ _ _ _ _ _ _ _ _ _ _ _ _ _ _ (q + 1) _ _ _ _ _ _ = _; rw [wn_s (by decide), f2_16]; rfl
theorem f2_18 : at1 method_3_code 18 = some (.sipush 255) := by decide +kernel
theorem s2_18 : V2 l Z b K (q + 1) 18 ls st H cN sN = (V2 l Z b K q 21 ls (.int 255 :: st) H cN sN) := by show Wn _ _ _ _ _ _ _ _ _ _ _ _ _ _ _ (q + 1) _ _ _ _ _ _ = _; rw [wn_s (by decide), f2_18]; rfl
theorem f2_21 : at1 method_3_code 21 = some (.iand) := by decide +kernel
theorem s2_21 : V2 l Z b K (q + 1) 21 ls st H cN sN = (popI st fun y r => popI r fun x r => V2 l Z b K q 22 ls (.int (x &&& y) :: r) H cN sN) := by show Wn _ _ _ _ _ _ _ _ _ _ _ _ _ _ _ (q + 1) _ _ _ _ _ _ = _; rw [wn_s (by decide), f2_21]; rfl
theorem f2_22 : at1 method_3_code 22 = some (.istore 8) := by decide +kernel
theorem s2_22 : V2 l Z b K (q + 1) 22 ls st H cN sN = (popI st fun v r => sto1 ls 8 (.int v) fun l' => V2 l Z b K q 24 l' r H cN sN) := by show Wn _ _ _ _ _ _ _ _ _ _ _ _ _ _ _ (q + 1) _ _ _ _ _ _ = _; rw [wn_s (by decide), f2_22]; rfl
theorem f2_24 : at1 method_3_code 24 = some (.goto 41) := by decide +kernel
theorem s2_24 : V2 l Z b K (q + 1) 24 ls st H cN sN = (V2 l Z b K q 65 ls st H cN sN) := by show Wn _ _ _ _ _ _ _ _ _ _ _ _ _ _ _ (q + 1) _ _ _ _ _ _ = _; rw [wn_s (by decide), f2_24]; rfl
theorem f2_27 : at1 method_3_code 27 = some (.lload 4) := by decide +kernel
theorem s2_27 : V2 l Z b K (q + 1) 27 ls st H cN sN = (ldJ ls 4 fun v => V2 l Z b K q 29 ls (.long v :: st) H cN sN) := by show Wn _ _ _ _ _ _ _ _ _ _ _ _ _ _ _ (q + 1) _ _ _ _ _ _ = _; rw [wn_s (by decide), f2_27]; rfl
theorem f2_29 : at1 method_3_code 29 = some (.bipush 7) := by decide +kernel
theorem s2_29 : V2 l Z b K (q + 1) 29 ls st H cN sN = (V2 l Z b K q 31 ls (.int 7 :: st) H cN sN) := by show Wn _ _ _ _ _ _ _ _ _ _ _ _ _ _ _ (q + 1) _ _ _ _ _ _ = _; rw [wn_s (by decide), f2_29]; rfl
theorem f2_31 : at1 method_3_code 31 = some (.iload 7) := by decide +kernel
theorem s2_31 : V2 l Z b K (q + 1) 31 ls st H cN sN = (ldI ls 7 fun v => V2 l Z b K q 33 ls (.int v :: st) H cN sN) := by show Wn _ _ _ _ _ _ _ _ _ _ _ _ _ _ _ (q + 1) _ _ _ _ _ _ = _; rw [wn_s (by decide), f2_31]; rfl
theorem f2_33 : at1 method_3_code 33 = some (.imul) := by decide +kernel
theorem s2_33 : V2 l Z b K (q + 1) 33 ls st H cN sN = (popI st fun y r => popI r fun x r => V2 l Z b K q 34 ls (.int (x * y) :: r) H cN sN) := by show Wn _ _ _ _ _ _ _ _ _ _ _ _ _ _ _ (q + 1) _ _ _ _ _ _ = _; rw [wn_s (by decide), f2_33]; rfl
theorem f2_34 : at1 method_3_code 34 = some (.lushr) := by decide +kernel
theorem s2_34 : V2 l Z b K (q + 1) 34 ls st H cN sN = (popI st fun y r => popJ r fun x r => V2 l Z b K q 35 ls (.long (XT.ushrL x y) :: r) H cN sN) := by show Wn _ _ _ _ _ _ _ _ _ _ _ _ _ _ _ (q + 1) _ _ _ _ _ _ = _; rw [wn_s (by decide), f2_34]; rfl
theorem f2_35 : at1 method_3_code 35 = some (.ldc2_w 29) := by decide +kernel
theorem s2_35 : V2 l Z b K (q + 1) 35 ls st H cN sN = (V2 l Z b K q 38 ls (.long 127 :: st) H cN sN) := by show Wn _ _ _ _ _ _ _ _ _ _ _ _ _ _ _ (q + 1) _ _ _ _ _ _ = _; rw [wn_s (by decide), f2_35]; rfl
theorem f2_38 : at1 method_3_code 38 = some (.land) := by decide +kernel
theorem s2_38 : V2 l Z b K (q + 1) 38 ls st H cN sN = (popJ st fun y r => popJ r fun x r => V2 l Z b K q 39 ls (.long (x &&& y) :: r) H cN sN) := by show Wn _ _ _ _ _ _ _ _ _ _ _ _ _ _ _ (q + 1) _ _ _ _ _ _ = _; rw [wn_s (by decide), f2_38]; rfl
theorem f2_39 : at1 method_3_code 39 = some (.l2i) := by decide +kernel
theorem s2_39 : V2 l Z b K (q + 1) 39 ls st H cN sN = (popJ st fun x r => V2 l Z b K q 40 ls (.int (x.toInt32) :: r) H cN sN) := by show Wn _ _ _ _ _ _ _ _ _ _ _ _ _ _ _ (q + 1) _ _ _ _ _ _ = _; rw [wn_s (by decide), f2_39]; rfl
theorem f2_40 : at1 method_3_code 40 = some (.istore 9) := by decide +kernel
theorem s2_40 : V2 l Z b K (q + 1) 40 ls st H cN sN = (popI st fun v r => sto1 ls 9 (.int v) fun l' => V2 l Z b K q 42 l' r H cN sN) := by show Wn _ _ _ _ _ _ _ _ _ _ _ _ _ _ _ (q + 1) _ _ _ _ _ _ = _; rw [wn_s (by decide), f2_40]; rfl
theorem f2_42 : at1 method_3_code 42 = some (.iload 7) := by decide +kernel
theorem s2_42 : V2 l Z b K (q + 1) 42 ls st H cN sN = (ldI ls 7 fun v => V2 l Z b K q 44 ls (.int v :: st) H cN sN) := by show Wn _ _ _ _ _ _ _ _ _ _ _ _ _ _ _ (q + 1) _ _ _ _ _ _ = _; rw [wn_s (by decide), f2_42]; rfl
theorem f2_44 : at1 method_3_code 44 = some (.iload_n 3) := by decide +kernel
theorem s2_44 : V2 l Z b K (q + 1) 44 ls st H cN sN = (ldI ls 3 fun v => V2 l Z b K q 45 ls (.int v :: st) H cN sN) := by show Wn _ _ _ _ _ _ _ _ _ _ _ _ _ _ _ (q + 1) _ _ _ _ _ _ = _; rw [wn_s (by decide), f2_44]; rfl
theorem f2_45 : at1 method_3_code 45 = some (.iconst 1) := by decide +kernel
theorem s2_45 : V2 l Z b K (q + 1) 45 ls st H cN sN = (V2 l Z b K q 46 ls (.int 1 :: st) H cN sN) := by show Wn _ _ _ _ _ _ _ _ _ _ _ _ _ _ _ (q + 1) _ _ _ _ _ _ = _; rw [wn_s (by decide), f2_45]; rfl
theorem f2_46 : at1 method_3_code 46 = some (.isub) := by decide +kernel
theorem s2_46 : V2 l Z b K (q + 1) 46 ls st H cN sN = (popI st fun y r => popI r fun x r => V2 l Z b K q 47 ls (.int (x - y) :: r) H cN sN) := by show Wn _ _ _ _ _ _ _ _ _ _ _ _ _ _ _ (q + 1) _ _ _ _ _ _ = _; rw [wn_s (by decide), f2_46]; rfl
theorem f2_47 : at1 method_3_code 47 = some (.if_icmp .ge 14) := by decide +kernel
theorem s2_47 : V2 l Z b K (q + 1) 47 ls st H cN sN = (popI st fun y r => popI r fun x r => if x < y then V2 l Z b K q 50 ls r H cN sN else V2 l Z b K q 61 ls r H cN sN) := by show Wn _ _ _ _ _ _ _ _ _ _ _ _ _ _ _ (q + 1) _ _ _ _ _ _ = _; rw [wn_s (by decide), f2_47]; rfl
theorem f2_50 : at1 method_3_code 50 = some (.iload 9) := by decide +kernel
theorem s2_50 : V2 l Z b K (q + 1) 50 ls st H cN sN = (ldI ls 9 fun v => V2 l Z b K q 52 ls (.int v :: st) H cN sN) := by show Wn _ _ _ _ _ _ _ _ _ _ _ _ _ _ _ (q + 1) _ _ _ _ _ _ = _; rw [wn_s (by decide), f2_50]; rfl
theorem f2_52 : at1 method_3_code 52 = some (.sipush 128) := by decide +kernel
theorem s2_52 : V2 l Z b K (q + 1) 52 ls st H cN sN = (V2 l Z b K q 55 ls (.int 128 :: st) H cN sN) := by show Wn _ _ _ _ _ _ _ _ _ _ _ _ _ _ _ (q + 1) _ _ _ _ _ _ = _; rw [wn_s (by decide), f2_52]; rfl
theorem f2_55 : at1 method_3_code 55 = some (.ior) := by decide +kernel
theorem s2_55 : V2 l Z b K (q + 1) 55 ls st H cN sN = (popI st fun y r => popI r fun x r => V2 l Z b K q 56 ls (.int (x ||| y) :: r) H cN sN) := by show Wn _ _ _ _ _ _ _ _ _ _ _ _ _ _ _ (q + 1) _ _ _ _ _ _ = _; rw [wn_s (by decide), f2_55]; rfl
theorem f2_56 : at1 method_3_code 56 = some (.istore 8) := by decide +kernel
theorem s2_56 : V2 l Z b K (q + 1) 56 ls st H cN sN = (popI st fun v r => sto1 ls 8 (.int v) fun l' => V2 l Z b K q 58 l' r H cN sN) := by show Wn _ _ _ _ _ _ _ _ _ _ _ _ _ _ _ (q + 1) _ _ _ _ _ _ = _; rw [wn_s (by decide), f2_56]; rfl
theorem f2_58 : at1 method_3_code 58 = some (.goto 7) := by decide +kernel
theorem s2_58 : V2 l Z b K (q + 1) 58 ls st H cN sN = (V2 l Z b K q 65 ls st H cN sN) := by show Wn _ _ _ _ _ _ _ _ _ _ _ _ _ _ _ (q + 1) _ _ _ _ _ _ = _; rw [wn_s (by decide), f2_58]; rfl
theorem f2_61 : at1 method_3_code 61 = some (.iload 9) := by decide +kernel
theorem s2_61 : V2 l Z b K (q + 1) 61 ls st H cN sN = (ldI ls 9 fun v => V2 l Z b K q 63 ls (.int v :: st) H cN sN) := by show Wn _ _ _ _ _ _ _ _ _ _ _ _ _ _ _ (q + 1) _ _ _ _ _ _ = _; rw [wn_s (by decide), f2_61]; rfl
theorem f2_63 : at1 method_3_code 63 = some (.istore 8) := by decide +kernel
theorem s2_63 : V2 l Z b K (q + 1) 63 ls st H cN sN = (popI st fun v r => sto1 ls 8 (.int v) fun l' => V2 l Z b K q 65 l' r H cN sN) := by show Wn _ _ _ _ _ _ _ _ _ _ _ _ _ _ _ (q + 1) _ _ _ _ _ _ = _; rw [wn_s (by decide), f2_63]; rfl
theorem f2_65 : at1 method_3_code 65 = some (.aload_n 0) := by decide +kernel
theorem s2_65 : V2 l Z b K (q + 1) 65 ls st H cN sN = (ldA ls 0 fun v => V2 l Z b K q 66 ls (v :: st) H cN sN) := by show Wn _ _ _ _ _ _ _ _ _ _ _ _ _ _ _ (q + 1) _ _ _ _ _ _ = _; rw [wn_s (by decide), f2_65]; rfl
theorem f2_66 : at1 method_3_code 66 = some (.iload_n 1) := by decide +kernel
theorem s2_66 : V2 l Z b K (q + 1) 66 ls st H cN sN = (ldI ls 1 fun v => V2 l Z b K q 67 ls (.int v :: st) H cN sN) := by show Wn _ _ _ _ _ _ _ _ _ _ _ _ _ _ _ (q + 1) _ _ _ _ _ _ = _; rw [wn_s (by decide), f2_66]; rfl
theorem f2_67 : at1 method_3_code 67 = some (.baload) := by decide +kernel
theorem s2_67 : V2 l Z b K (q + 1) 67 ls st H cN sN = (popI st fun j r => popR r fun a r => arr H b.size a fun i ty vs => if ty = .byte then idx vs j fun v => V2 l Z b K q 68 ls (v :: r) H cN sN else False) := by show Wn _ _ _ _ _ _ _ _ _ _ _ _ _ _ _ (q + 1) _ _ _ _ _ _ = _; rw [wn_s (by decide), f2_67]; rfl
theorem f2_68 : at1 method_3_code 68 = some (.sipush 255) := by decide +kernel
theorem s2_68 : V2 l Z b K (q + 1) 68 ls st H cN sN = (V2 l Z b K q 71 ls (.int 255 :: st) H cN sN) := by show Wn _ _ _ _ _ _ _ _ _ _ _ _ _ _ _ (q + 1) _ _ _ _ _ _ = _; rw [wn_s (by decide), f2_68]; rfl
theorem f2_71 : at1 method_3_code 71 = some (.iand) := by decide +kernel
theorem s2_71 : V2 l Z b K (q + 1) 71 ls st H cN sN = (popI st fun y r => popI r fun x r => V2 l Z b K q 72 ls (.int (x &&& y) :: r) H cN sN) := by show Wn _ _ _ _ _ _ _ _ _ _ _ _ _ _ _ (q + 1) _ _ _ _ _ _ = _; rw [wn_s (by decide), f2_71]; rfl
theorem f2_72 : at1 method_3_code 72 = some (.iload 8) := by decide +kernel
theorem s2_72 : V2 l Z b K (q + 1) 72 ls st H cN sN = (ldI ls 8 fun v => V2 l Z b K q 74 ls (.int v :: st) H cN sN) := by show Wn _ _ _ _ _ _ _ _ _ _ _ _ _ _ _ (q + 1) _ _ _ _ _ _ = _; rw [wn_s (by decide), f2_72]; rfl
theorem f2_74 : at1 method_3_code 74 = some (.if_icmp .ne 7) := by decide +kernel
theorem s2_74 : V2 l Z b K (q + 1) 74 ls st H cN sN = (popI st fun y r => popI r fun x r => if x = y then V2 l Z b K q 77 ls r H cN sN else V2 l Z b K q 81 ls r H cN sN) := by show Wn _ _ _ _ _ _ _ _ _ _ _ _ _ _ _ (q + 1) _ _ _ _ _ _ = _; rw [wn_s (by decide), f2_74]; rfl
theorem f2_77 : at1 method_3_code 77 = some (.iconst 1) := by decide +kernel
theorem s2_77 : V2 l Z b K (q + 1) 77 ls st H cN sN = (V2 l Z b K q 78 ls (.int 1 :: st) H cN sN) := by show Wn _ _ _ _ _ _ _ _ _ _ _ _ _ _ _ (q + 1) _ _ _ _ _ _ = _; rw [wn_s (by decide), f2_77]; rfl
theorem f2_78 : at1 method_3_code 78 = some (.goto 4) := by decide +kernel
theorem s2_78 : V2 l Z b K (q + 1) 78 ls st H cN sN = (V2 l Z b K q 82 ls st H cN sN) := by show Wn _ _ _ _ _ _ _ _ _ _ _ _ _ _ _ (q + 1) _ _ _ _ _ _ = _; rw [wn_s (by decide), f2_78]; rfl
theorem f2_81 : at1 method_3_code 81 = some (.iconst 0) := by decide +kernel
theorem s2_81 : V2 l Z b K (q + 1) 81 ls st H cN sN = (V2 l Z b K q 82 ls (.int 0 :: st) H cN sN) := by show Wn _ _ _ _ _ _ _ _ _ _ _ _ _ _ _ (q + 1) _ _ _ _ _ _ = _; rw [wn_s (by decide), f2_81]; rfl
theorem f2_82 : at1 method_3_code 82 = some (.ireturn) := by decide +kernel
theorem s2_82 : V2 l Z b K (q + 1) 82 ls st H cN sN = (popI st fun x r => if cN ≤ 0 ∧ sN ≤ 0 then K (some (.int (nar .boolean x))) H else False) := by show Wn _ _ _ _ _ _ _ _ _ _ _ _ _ _ _ (q + 1) _ _ _ _ _ _ = _; rw [wn_s (by decide), f2_82]; rfl
theorem S2 : type_of% @z2 ∧ type_of% @s2_0 ∧ type_of% @s2_1 ∧ type_of% @s2_2 ∧ type_of% @s2_3 ∧ type_of% @s2_5 ∧ type_of% @s2_7 ∧ type_of% @s2_10 ∧ type_of% @s2_12 ∧ type_of% @s2_13 ∧ type_of% @s2_16 ∧ type_of% @s2_18 ∧ type_of% @s2_21 ∧ type_of% @s2_22 ∧ type_of% @s2_24 ∧ type_of% @s2_27 ∧ type_of% @s2_29 ∧ type_of% @s2_31 ∧ type_of% @s2_33 ∧ type_of% @s2_34 ∧ type_of% @s2_35 ∧ type_of% @s2_38 ∧ type_of% @s2_39 ∧ type_of% @s2_40 ∧ type_of% @s2_42 ∧ type_of% @s2_44 ∧ type_of% @s2_45 ∧ type_of% @s2_46 ∧ type_of% @s2_47 ∧ type_of% @s2_50 ∧ type_of% @s2_52 ∧ type_of% @s2_55 ∧ type_of% @s2_56 ∧ type_of% @s2_58 ∧ type_of% @s2_61 ∧ type_of% @s2_63 ∧ type_of% @s2_65 ∧ type_of% @s2_66 ∧ type_of% @s2_67 ∧ type_of% @s2_68 ∧ type_of% @s2_71 ∧ type_of% @s2_72 ∧ type_of% @s2_74 ∧ type_of% @s2_77 ∧ type_of% @s2_78 ∧ type_of% @s2_81 ∧ type_of% @s2_82 := ⟨@z2, @s2_0, @s2_1, @s2_2, @s2_3, @s2_5, @s2_7, @s2_10, @s2_12, @s2_13, @s2_16, @s2_18, @s2_21, @s2_22, @s2_24, @s2_27, @s2_29, @s2_31, @s2_33, @s2_34, @s2_35, @s2_38, @s2_39, @s2_40, @s2_42, @s2_44, @s2_45, @s2_46, @s2_47, @s2_50, @s2_52, @s2_55, @s2_56, @s2_58, @s2_61, @s2_63, @s2_65, @s2_66, @s2_67, @s2_68, @s2_71, @s2_72, @s2_74, @s2_77, @s2_78, @s2_81, @s2_82⟩
theorem ef2 (m : MethodId) (x0 : Nat) (x1 : Int32) (x2 : Int32) (x3 : Int32) (x4 : Int64) (x5 : Int32) : entryFrame m [.ref x0, .int x1, .int x2, .int x3, .long x4, .int x5].toArray 10 = mkF m 0 [.val (.ref x0), .val (.int x1), .val (.int x2), .val (.int x3), .val (.long x4), .second, .val (.int x5), .unset, .unset, .unset].toArray [] := by first | (simp [entryFrame, mkF, argsToLocals, Value.category, maxLocals, List.replicate]; done) | rfl
theorem pn2 : plainFor y2 = true := by first | decide +kernel | exact plainFor_of_name (by simp [y2, plainName, overriddenIn])
theorem pd2 : parseMethodDescriptor "([BIIIJB)Z" = some ⟨[(.array .byte), .int, .int, .int, .long, .byte], some .boolean⟩ := by decide +kernel
theorem c2 (x0 : Nat) (x1 : Int32) (x2 : Int32) (x3 : Int32) (x4 : Int64) (x5 : Int32) (g : G2 l Z b K 0 [.val (.ref x0), .val (.int x1), .val (.int x2), .val (.int x3), .val (.long x4), .second, .val (.int x5), .unset, .unset, .unset] [] H 0 0) : Con tables_1 l Z b y2 method_3_code 10 (some .boolean) R2 [.ref x0, .int x1, .int x2, .int x3, .long x4, .int x5] H K := G.con pn2 (fun m => ef2 m x0 x1 x2 x3 x4 x5) g
end Body2
section Calls0
variable {l : Launch} {Z : State} {b : Heap} {K : Option Value → List Cel → Prop} {ls : List Slot} {rest : List Value} {H : List Cel} {cN sN : Nat} {K' : Option Value → List Cel → Prop}
theorem k0_72 {x0 : Nat} {x1 : Int32} {x2 : Int32} (C : Con tables_1 l Z b y1 prog_55_method_3_code 5 (some .int) R1 [.ref x0, .int x1, .int x2] H K') (k : ∀ v H', K' v H' → G0 l Z b K 75 ls (v.toList ++ rest) H' (cN + 0) (sN + 0)) (hls : ls.length = maxLocals := by rfl) (hlo : wt rest + (5 + 11) + R1.locals ≤ room_1.locals := by exact Nat.le_of_ble_eq_true rfl) (hc : cN + R1.cells ≤ room_1.cells := by exact Nat.le_of_ble_eq_true rfl) (hs : sN + R1.slots ≤ room_1.slots := by exact Nat.le_of_ble_eq_true rfl) : G0 l Z b K 72 ls (.int x2 :: .int x1 :: .ref x0 :: rest) H cN sN := G.callS (List.mem_of_getElem? (i := 1) rfl) (List.mem_of_getElem? (i := 2) rfl) (List.mem_of_getElem? (i := 3) rfl) (List.mem_of_getElem? (i := 4) rfl) ⟨by decide, by decide⟩ pd1 C f0_72 rfl rfl hls (by decide) hlo hc hs k
theorem kf0_72 {x0 : Nat} {x1 : Int32} {x2 : Int32} {r : Value} {Hr : List Cel} (C : Con tables_1 l Z b y1 prog_55_method_3_code 5 (some .int) R1 [.ref x0, .int x1, .int x2] H (is (some r) Hr)) (k : G0 l Z b K 75 ls (r :: rest) Hr (cN + 0) (sN + 0)) (hls : ls.length = maxLocals := by rfl) (hlo : wt rest + (5 + 11) + R1.locals ≤ room_1.locals := by exact Nat.le_of_ble_eq_true rfl) (hc : cN + R1.cells ≤ room_1.cells := by exact Nat.le_of_ble_eq_true rfl) (hs : sN + R1.slots ≤ room_1.slots := by exact Nat.le_of_ble_eq_true rfl) : G0 l Z b K 72 ls (.int x2 :: .int x1 :: .ref x0 :: rest) H cN sN := k0_72 C (fun v H' h => by obtain ⟨rfl, rfl⟩ := h; exact k) hls hlo hc hs
theorem k0_179 {x0 : Nat} {x1 : Int32} {x2 : Int32} {x3 : Int32} {x4 : Int64} {x5 : Int32} (C : Con tables_1 l Z b y2 method_3_code 10 (some .boolean) R2 [.ref x0, .int x1, .int x2, .int x3, .long x4, .int x5] H K') (k : ∀ v H', K' v H' → G0 l Z b K 182 ls (v.toList ++ rest) H' (cN + 0) (sN + 0)) (hls : ls.length = maxLocals := by rfl) (hlo : wt rest + (10 + 11) + R2.locals ≤ room_1.locals := by exact Nat.le_of_ble_eq_true rfl) (hc : cN + R2.cells ≤ room_1.cells := by exact Nat.le_of_ble_eq_true rfl) (hs : sN + R2.slots ≤ room_1.slots := by exact Nat.le_of_ble_eq_true rfl) : G0 l Z b K 179 ls (.int x5 :: .long x4 :: .int x3 :: .int x2 :: .int x1 :: .ref x0 :: rest) H cN sN := G.callS (List.mem_of_getElem? (i := 7) rfl) (List.mem_of_getElem? (i := 8) rfl) (List.mem_of_getElem? (i := 9) rfl) (List.mem_of_getElem? (i := 10) rfl) ⟨by decide, by decide⟩ pd2 C f0_179 rfl rfl hls (by decide) hlo hc hs k
theorem kf0_179 {x0 : Nat} {x1 : Int32} {x2 : Int32} {x3 : Int32} {x4 : Int64} {x5 : Int32} {r : Value} {Hr : List Cel} (C : Con tables_1 l Z b y2 method_3_code 10 (some .boolean) R2 [.ref x0, .int x1, .int x2, .int x3, .long x4, .int x5] H (is (some r) Hr)) (k : G0 l Z b K 182 ls (r :: rest) Hr (cN + 0) (sN + 0)) (hls : ls.length = maxLocals := by rfl) (hlo : wt rest + (10 + 11) + R2.locals ≤ room_1.locals := by exact Nat.le_of_ble_eq_true rfl) (hc : cN + R2.cells ≤ room_1.cells := by exact Nat.le_of_ble_eq_true rfl) (hs : sN + R2.slots ≤ room_1.slots := by exact Nat.le_of_ble_eq_true rfl) : G0 l Z b K 179 ls (.int x5 :: .long x4 :: .int x3 :: .int x2 :: .int x1 :: .ref x0 :: rest) H cN sN := k0_179 C (fun v H' h => by obtain ⟨rfl, rfl⟩ := h; exact k) hls hlo hc hs
theorem k0_207 {x0 : Nat} {x1 : Int32} {x2 : Int32} {x3 : Int32} {x4 : Int64} {x5 : Int32} (C : Con tables_1 l Z b y2 method_3_code 10 (some .boolean) R2 [.ref x0, .int x1, .int x2, .int x3, .long x4, .int x5] H K') (k : ∀ v H', K' v H' → G0 l Z b K 210 ls (v.toList ++ rest) H' (cN + 0) (sN + 0)) (hls : ls.length = maxLocals := by rfl) (hlo : wt rest + (10 + 11) + R2.locals ≤ room_1.locals := by exact Nat.le_of_ble_eq_true rfl) (hc : cN + R2.cells ≤ room_1.cells := by exact Nat.le_of_ble_eq_true rfl) (hs : sN + R2.slots ≤ room_1.slots := by exact Nat.le_of_ble_eq_true rfl) : G0 l Z b K 207 ls (.int x5 :: .long x4 :: .int x3 :: .int x2 :: .int x1 :: .ref x0 :: rest) H cN sN := G.callS (List.mem_of_getElem? (i := 7) rfl) (List.mem_of_getElem? (i := 8) rfl) (List.mem_of_getElem? (i := 9) rfl) (List.mem_of_getElem? (i := 10) rfl) ⟨by decide, by decide⟩ pd2 C f0_207 rfl rfl hls (by decide) hlo hc hs k
theorem kf0_207 {x0 : Nat} {x1 : Int32} {x2 : Int32} {x3 : Int32} {x4 : Int64} {x5 : Int32} {r : Value} {Hr : List Cel} (C : Con tables_1 l Z b y2 method_3_code 10 (some .boolean) R2 [.ref x0, .int x1, .int x2, .int x3, .long x4, .int x5] H (is (some r) Hr)) (k : G0 l Z b K 210 ls (r :: rest) Hr (cN + 0) (sN + 0)) (hls : ls.length = maxLocals := by rfl) (hlo : wt rest + (10 + 11) + R2.locals ≤ room_1.locals := by exact Nat.le_of_ble_eq_true rfl) (hc : cN + R2.cells ≤ room_1.cells := by exact Nat.le_of_ble_eq_true rfl) (hs : sN + R2.slots ≤ room_1.slots := by exact Nat.le_of_ble_eq_true rfl) : G0 l Z b K 207 ls (.int x5 :: .long x4 :: .int x3 :: .int x2 :: .int x1 :: .ref x0 :: rest) H cN sN := k0_207 C (fun v H' h => by obtain ⟨rfl, rfl⟩ := h; exact k) hls hlo hc hs
theorem k0_235 {x0 : Nat} {x1 : Int32} {x2 : Int32} {x3 : Int32} {x4 : Int64} {x5 : Int32} (C : Con tables_1 l Z b y2 method_3_code 10 (some .boolean) R2 [.ref x0, .int x1, .int x2, .int x3, .long x4, .int x5] H K') (k : ∀ v H', K' v H' → G0 l Z b K 238 ls (v.toList ++ rest) H' (cN + 0) (sN + 0)) (hls : ls.length = maxLocals := by rfl) (hlo : wt rest + (10 + 11) + R2.locals ≤ room_1.locals := by exact Nat.le_of_ble_eq_true rfl) (hc : cN + R2.cells ≤ room_1.cells := by exact Nat.le_of_ble_eq_true rfl) (hs : sN + R2.slots ≤ room_1.slots := by exact Nat.le_of_ble_eq_true rfl) : G0 l Z b K 235 ls (.int x5 :: .long x4 :: .int x3 :: .int x2 :: .int x1 :: .ref x0 :: rest) H cN sN := G.callS (List.mem_of_getElem? (i := 7) rfl) (List.mem_of_getElem? (i := 8) rfl) (List.mem_of_getElem? (i := 9) rfl) (List.mem_of_getElem? (i := 10) rfl) ⟨by decide, by decide⟩ pd2 C f0_235 rfl rfl hls (by decide) hlo hc hs k
theorem kf0_235 {x0 : Nat} {x1 : Int32} {x2 : Int32} {x3 : Int32} {x4 : Int64} {x5 : Int32} {r : Value} {Hr : List Cel} (C : Con tables_1 l Z b y2 method_3_code 10 (some .boolean) R2 [.ref x0, .int x1, .int x2, .int x3, .long x4, .int x5] H (is (some r) Hr)) (k : G0 l Z b K 238 ls (r :: rest) Hr (cN + 0) (sN + 0)) (hls : ls.length = maxLocals := by rfl) (hlo : wt rest + (10 + 11) + R2.locals ≤ room_1.locals := by exact Nat.le_of_ble_eq_true rfl) (hc : cN + R2.cells ≤ room_1.cells := by exact Nat.le_of_ble_eq_true rfl) (hs : sN + R2.slots ≤ room_1.slots := by exact Nat.le_of_ble_eq_true rfl) : G0 l Z b K 235 ls (.int x5 :: .long x4 :: .int x3 :: .int x2 :: .int x1 :: .ref x0 :: rest) H cN sN := k0_235 C (fun v H' h => by obtain ⟨rfl, rfl⟩ := h; exact k) hls hlo hc hs
theorem k0_263 {x0 : Nat} {x1 : Int32} {x2 : Int32} {x3 : Int32} {x4 : Int64} {x5 : Int32} (C : Con tables_1 l Z b y2 method_3_code 10 (some .boolean) R2 [.ref x0, .int x1, .int x2, .int x3, .long x4, .int x5] H K') (k : ∀ v H', K' v H' → G0 l Z b K 266 ls (v.toList ++ rest) H' (cN + 0) (sN + 0)) (hls : ls.length = maxLocals := by rfl) (hlo : wt rest + (10 + 11) + R2.locals ≤ room_1.locals := by exact Nat.le_of_ble_eq_true rfl) (hc : cN + R2.cells ≤ room_1.cells := by exact Nat.le_of_ble_eq_true rfl) (hs : sN + R2.slots ≤ room_1.slots := by exact Nat.le_of_ble_eq_true rfl) : G0 l Z b K 263 ls (.int x5 :: .long x4 :: .int x3 :: .int x2 :: .int x1 :: .ref x0 :: rest) H cN sN := G.callS (List.mem_of_getElem? (i := 7) rfl) (List.mem_of_getElem? (i := 8) rfl) (List.mem_of_getElem? (i := 9) rfl) (List.mem_of_getElem? (i := 10) rfl) ⟨by decide, by decide⟩ pd2 C f0_263 rfl rfl hls (by decide) hlo hc hs k
theorem kf0_263 {x0 : Nat} {x1 : Int32} {x2 : Int32} {x3 : Int32} {x4 : Int64} {x5 : Int32} {r : Value} {Hr : List Cel} (C : Con tables_1 l Z b y2 method_3_code 10 (some .boolean) R2 [.ref x0, .int x1, .int x2, .int x3, .long x4, .int x5] H (is (some r) Hr)) (k : G0 l Z b K 266 ls (r :: rest) Hr (cN + 0) (sN + 0)) (hls : ls.length = maxLocals := by rfl) (hlo : wt rest + (10 + 11) + R2.locals ≤ room_1.locals := by exact Nat.le_of_ble_eq_true rfl) (hc : cN + R2.cells ≤ room_1.cells := by exact Nat.le_of_ble_eq_true rfl) (hs : sN + R2.slots ≤ room_1.slots := by exact Nat.le_of_ble_eq_true rfl) : G0 l Z b K 263 ls (.int x5 :: .long x4 :: .int x3 :: .int x2 :: .int x1 :: .ref x0 :: rest) H cN sN := k0_263 C (fun v H' h => by obtain ⟨rfl, rfl⟩ := h; exact k) hls hlo hc hs
theorem k0_291 {x0 : Nat} {x1 : Int32} {x2 : Int32} {x3 : Int32} {x4 : Int64} {x5 : Int32} (C : Con tables_1 l Z b y2 method_3_code 10 (some .boolean) R2 [.ref x0, .int x1, .int x2, .int x3, .long x4, .int x5] H K') (k : ∀ v H', K' v H' → G0 l Z b K 294 ls (v.toList ++ rest) H' (cN + 0) (sN + 0)) (hls : ls.length = maxLocals := by rfl) (hlo : wt rest + (10 + 11) + R2.locals ≤ room_1.locals := by exact Nat.le_of_ble_eq_true rfl) (hc : cN + R2.cells ≤ room_1.cells := by exact Nat.le_of_ble_eq_true rfl) (hs : sN + R2.slots ≤ room_1.slots := by exact Nat.le_of_ble_eq_true rfl) : G0 l Z b K 291 ls (.int x5 :: .long x4 :: .int x3 :: .int x2 :: .int x1 :: .ref x0 :: rest) H cN sN := G.callS (List.mem_of_getElem? (i := 7) rfl) (List.mem_of_getElem? (i := 8) rfl) (List.mem_of_getElem? (i := 9) rfl) (List.mem_of_getElem? (i := 10) rfl) ⟨by decide, by decide⟩ pd2 C f0_291 rfl rfl hls (by decide) hlo hc hs k
theorem kf0_291 {x0 : Nat} {x1 : Int32} {x2 : Int32} {x3 : Int32} {x4 : Int64} {x5 : Int32} {r : Value} {Hr : List Cel} (C : Con tables_1 l Z b y2 method_3_code 10 (some .boolean) R2 [.ref x0, .int x1, .int x2, .int x3, .long x4, .int x5] H (is (some r) Hr)) (k : G0 l Z b K 294 ls (r :: rest) Hr (cN + 0) (sN + 0)) (hls : ls.length = maxLocals := by rfl) (hlo : wt rest + (10 + 11) + R2.locals ≤ room_1.locals := by exact Nat.le_of_ble_eq_true rfl) (hc : cN + R2.cells ≤ room_1.cells := by exact Nat.le_of_ble_eq_true rfl) (hs : sN + R2.slots ≤ room_1.slots := by exact Nat.le_of_ble_eq_true rfl) : G0 l Z b K 291 ls (.int x5 :: .long x4 :: .int x3 :: .int x2 :: .int x1 :: .ref x0 :: rest) H cN sN := k0_291 C (fun v H' h => by obtain ⟨rfl, rfl⟩ := h; exact k) hls hlo hc hs
theorem k0_319 {x0 : Nat} {x1 : Int32} {x2 : Int32} {x3 : Int32} {x4 : Int64} {x5 : Int32} (C : Con tables_1 l Z b y2 method_3_code 10 (some .boolean) R2 [.ref x0, .int x1, .int x2, .int x3, .long x4, .int x5] H K') (k : ∀ v H', K' v H' → G0 l Z b K 322 ls (v.toList ++ rest) H' (cN + 0) (sN + 0)) (hls : ls.length = maxLocals := by rfl) (hlo : wt rest + (10 + 11) + R2.locals ≤ room_1.locals := by exact Nat.le_of_ble_eq_true rfl) (hc : cN + R2.cells ≤ room_1.cells := by exact Nat.le_of_ble_eq_true rfl) (hs : sN + R2.slots ≤ room_1.slots := by exact Nat.le_of_ble_eq_true rfl) : G0 l Z b K 319 ls (.int x5 :: .long x4 :: .int x3 :: .int x2 :: .int x1 :: .ref x0 :: rest) H cN sN := G.callS (List.mem_of_getElem? (i := 7) rfl) (List.mem_of_getElem? (i := 8) rfl) (List.mem_of_getElem? (i := 9) rfl) (List.mem_of_getElem? (i := 10) rfl) ⟨by decide, by decide⟩ pd2 C f0_319 rfl rfl hls (by decide) hlo hc hs k
theorem kf0_319 {x0 : Nat} {x1 : Int32} {x2 : Int32} {x3 : Int32} {x4 : Int64} {x5 : Int32} {r : Value} {Hr : List Cel} (C : Con tables_1 l Z b y2 method_3_code 10 (some .boolean) R2 [.ref x0, .int x1, .int x2, .int x3, .long x4, .int x5] H (is (some r) Hr)) (k : G0 l Z b K 322 ls (r :: rest) Hr (cN + 0) (sN + 0)) (hls : ls.length = maxLocals := by rfl) (hlo : wt rest + (10 + 11) + R2.locals ≤ room_1.locals := by exact Nat.le_of_ble_eq_true rfl) (hc : cN + R2.cells ≤ room_1.cells := by exact Nat.le_of_ble_eq_true rfl) (hs : sN + R2.slots ≤ room_1.slots := by exact Nat.le_of_ble_eq_true rfl) : G0 l Z b K 319 ls (.int x5 :: .long x4 :: .int x3 :: .int x2 :: .int x1 :: .ref x0 :: rest) H cN sN := k0_319 C (fun v H' h => by obtain ⟨rfl, rfl⟩ := h; exact k) hls hlo hc hs
theorem k0_348 {x0 : Nat} {x1 : Int32} {x2 : Int32} {x3 : Int32} {x4 : Int64} {x5 : Int32} (C : Con tables_1 l Z b y2 method_3_code 10 (some .boolean) R2 [.ref x0, .int x1, .int x2, .int x3, .long x4, .int x5] H K') (k : ∀ v H', K' v H' → G0 l Z b K 351 ls (v.toList ++ rest) H' (cN + 0) (sN + 0)) (hls : ls.length = maxLocals := by rfl) (hlo : wt rest + (10 + 11) + R2.locals ≤ room_1.locals := by exact Nat.le_of_ble_eq_true rfl) (hc : cN + R2.cells ≤ room_1.cells := by exact Nat.le_of_ble_eq_true rfl) (hs : sN + R2.slots ≤ room_1.slots := by exact Nat.le_of_ble_eq_true rfl) : G0 l Z b K 348 ls (.int x5 :: .long x4 :: .int x3 :: .int x2 :: .int x1 :: .ref x0 :: rest) H cN sN := G.callS (List.mem_of_getElem? (i := 7) rfl) (List.mem_of_getElem? (i := 8) rfl) (List.mem_of_getElem? (i := 9) rfl) (List.mem_of_getElem? (i := 10) rfl) ⟨by decide, by decide⟩ pd2 C f0_348 rfl rfl hls (by decide) hlo hc hs k
theorem kf0_348 {x0 : Nat} {x1 : Int32} {x2 : Int32} {x3 : Int32} {x4 : Int64} {x5 : Int32} {r : Value} {Hr : List Cel} (C : Con tables_1 l Z b y2 method_3_code 10 (some .boolean) R2 [.ref x0, .int x1, .int x2, .int x3, .long x4, .int x5] H (is (some r) Hr)) (k : G0 l Z b K 351 ls (r :: rest) Hr (cN + 0) (sN + 0)) (hls : ls.length = maxLocals := by rfl) (hlo : wt rest + (10 + 11) + R2.locals ≤ room_1.locals := by exact Nat.le_of_ble_eq_true rfl) (hc : cN + R2.cells ≤ room_1.cells := by exact Nat.le_of_ble_eq_true rfl) (hs : sN + R2.slots ≤ room_1.slots := by exact Nat.le_of_ble_eq_true rfl) : G0 l Z b K 348 ls (.int x5 :: .long x4 :: .int x3 :: .int x2 :: .int x1 :: .ref x0 :: rest) H cN sN := k0_348 C (fun v H' h => by obtain ⟨rfl, rfl⟩ := h; exact k) hls hlo hc hs
theorem k0_377 {x0 : Nat} {x1 : Int32} {x2 : Int32} {x3 : Int32} {x4 : Int64} {x5 : Int32} (C : Con tables_1 l Z b y2 method_3_code 10 (some .boolean) R2 [.ref x0, .int x1, .int x2, .int x3, .long x4, .int x5] H K') (k : ∀ v H', K' v H' → G0 l Z b K 380 ls (v.toList ++ rest) H' (cN + 0) (sN + 0)) (hls : ls.length = maxLocals := by rfl) (hlo : wt rest + (10 + 11) + R2.locals ≤ room_1.locals := by exact Nat.le_of_ble_eq_true rfl) (hc : cN + R2.cells ≤ room_1.cells := by exact Nat.le_of_ble_eq_true rfl) (hs : sN + R2.slots ≤ room_1.slots := by exact Nat.le_of_ble_eq_true rfl) : G0 l Z b K 377 ls (.int x5 :: .long x4 :: .int x3 :: .int x2 :: .int x1 :: .ref x0 :: rest) H cN sN := G.callS (List.mem_of_getElem? (i := 7) rfl) (List.mem_of_getElem? (i := 8) rfl) (List.mem_of_getElem? (i := 9) rfl) (List.mem_of_getElem? (i := 10) rfl) ⟨by decide, by decide⟩ pd2 C f0_377 rfl rfl hls (by decide) hlo hc hs k
theorem kf0_377 {x0 : Nat} {x1 : Int32} {x2 : Int32} {x3 : Int32} {x4 : Int64} {x5 : Int32} {r : Value} {Hr : List Cel} (C : Con tables_1 l Z b y2 method_3_code 10 (some .boolean) R2 [.ref x0, .int x1, .int x2, .int x3, .long x4, .int x5] H (is (some r) Hr)) (k : G0 l Z b K 380 ls (r :: rest) Hr (cN + 0) (sN + 0)) (hls : ls.length = maxLocals := by rfl) (hlo : wt rest + (10 + 11) + R2.locals ≤ room_1.locals := by exact Nat.le_of_ble_eq_true rfl) (hc : cN + R2.cells ≤ room_1.cells := by exact Nat.le_of_ble_eq_true rfl) (hs : sN + R2.slots ≤ room_1.slots := by exact Nat.le_of_ble_eq_true rfl) : G0 l Z b K 377 ls (.int x5 :: .long x4 :: .int x3 :: .int x2 :: .int x1 :: .ref x0 :: rest) H cN sN := k0_377 C (fun v H' h => by obtain ⟨rfl, rfl⟩ := h; exact k) hls hlo hc hs
theorem k0_406 {x0 : Nat} {x1 : Int32} {x2 : Int32} {x3 : Int32} {x4 : Int64} {x5 : Int32} (C : Con tables_1 l Z b y2 method_3_code 10 (some .boolean) R2 [.ref x0, .int x1, .int x2, .int x3, .long x4, .int x5] H K') (k : ∀ v H', K' v H' → G0 l Z b K 409 ls (v.toList ++ rest) H' (cN + 0) (sN + 0)) (hls : ls.length = maxLocals := by rfl) (hlo : wt rest + (10 + 11) + R2.locals ≤ room_1.locals := by exact Nat.le_of_ble_eq_true rfl) (hc : cN + R2.cells ≤ room_1.cells := by exact Nat.le_of_ble_eq_true rfl) (hs : sN + R2.slots ≤ room_1.slots := by exact Nat.le_of_ble_eq_true rfl) : G0 l Z b K 406 ls (.int x5 :: .long x4 :: .int x3 :: .int x2 :: .int x1 :: .ref x0 :: rest) H cN sN := G.callS (List.mem_of_getElem? (i := 7) rfl) (List.mem_of_getElem? (i := 8) rfl) (List.mem_of_getElem? (i := 9) rfl) (List.mem_of_getElem? (i := 10) rfl) ⟨by decide, by decide⟩ pd2 C f0_406 rfl rfl hls (by decide) hlo hc hs k
theorem kf0_406 {x0 : Nat} {x1 : Int32} {x2 : Int32} {x3 : Int32} {x4 : Int64} {x5 : Int32} {r : Value} {Hr : List Cel} (C : Con tables_1 l Z b y2 method_3_code 10 (some .boolean) R2 [.ref x0, .int x1, .int x2, .int x3, .long x4, .int x5] H (is (some r) Hr)) (k : G0 l Z b K 409 ls (r :: rest) Hr (cN + 0) (sN + 0)) (hls : ls.length = maxLocals := by rfl) (hlo : wt rest + (10 + 11) + R2.locals ≤ room_1.locals := by exact Nat.le_of_ble_eq_true rfl) (hc : cN + R2.cells ≤ room_1.cells := by exact Nat.le_of_ble_eq_true rfl) (hs : sN + R2.slots ≤ room_1.slots := by exact Nat.le_of_ble_eq_true rfl) : G0 l Z b K 406 ls (.int x5 :: .long x4 :: .int x3 :: .int x2 :: .int x1 :: .ref x0 :: rest) H cN sN := k0_406 C (fun v H' h => by obtain ⟨rfl, rfl⟩ := h; exact k) hls hlo hc hs
theorem k0_435 {x0 : Nat} {x1 : Int32} {x2 : Int32} {x3 : Int32} {x4 : Int64} {x5 : Int32} (C : Con tables_1 l Z b y2 method_3_code 10 (some .boolean) R2 [.ref x0, .int x1, .int x2, .int x3, .long x4, .int x5] H K') (k : ∀ v H', K' v H' → G0 l Z b K 438 ls (v.toList ++ rest) H' (cN + 0) (sN + 0)) (hls : ls.length = maxLocals := by rfl) (hlo : wt rest + (10 + 11) + R2.locals ≤ room_1.locals := by exact Nat.le_of_ble_eq_true rfl) (hc : cN + R2.cells ≤ room_1.cells := by exact Nat.le_of_ble_eq_true rfl) (hs : sN + R2.slots ≤ room_1.slots := by exact Nat.le_of_ble_eq_true rfl) : G0 l Z b K 435 ls (.int x5 :: .long x4 :: .int x3 :: .int x2 :: .int x1 :: .ref x0 :: rest) H cN sN := G.callS (List.mem_of_getElem? (i := 7) rfl) (List.mem_of_getElem? (i := 8) rfl) (List.mem_of_getElem? (i := 9) rfl) (List.mem_of_getElem? (i := 10) rfl) ⟨by decide, by decide⟩ pd2 C f0_435 rfl rfl hls (by decide) hlo hc hs k
theorem kf0_435 {x0 : Nat} {x1 : Int32} {x2 : Int32} {x3 : Int32} {x4 : Int64} {x5 : Int32} {r : Value} {Hr : List Cel} (C : Con tables_1 l Z b y2 method_3_code 10 (some .boolean) R2 [.ref x0, .int x1, .int x2, .int x3, .long x4, .int x5] H (is (some r) Hr)) (k : G0 l Z b K 438 ls (r :: rest) Hr (cN + 0) (sN + 0)) (hls : ls.length = maxLocals := by rfl) (hlo : wt rest + (10 + 11) + R2.locals ≤ room_1.locals := by exact Nat.le_of_ble_eq_true rfl) (hc : cN + R2.cells ≤ room_1.cells := by exact Nat.le_of_ble_eq_true rfl) (hs : sN + R2.slots ≤ room_1.slots := by exact Nat.le_of_ble_eq_true rfl) : G0 l Z b K 435 ls (.int x5 :: .long x4 :: .int x3 :: .int x2 :: .int x1 :: .ref x0 :: rest) H cN sN := k0_435 C (fun v H' h => by obtain ⟨rfl, rfl⟩ := h; exact k) hls hlo hc hs
end Calls0
theorem room_c : room_1.cells = 16 := by decide
theorem room_s : room_1.slots = 128 := by decide
def sm (i a n : Int32) (v : Int64) (f p : Int32) : Int32 :=
  if i - a < 0 then (if p &&& 255 = f &&& 255 then 1 else 0)
  else if i - a < n then (if i - a < n - 1 then (if p &&& 255 = (XT.ushrL v (7 * (i - a)) &&& 127).toInt32 ||| 128 then 1 else 0) else (if p &&& 255 = (XT.ushrL v (7 * (i - a)) &&& 127).toInt32 then 1 else 0))
  else (if p &&& 255 = f &&& 255 then 1 else 0)
section Own
variable {l : Launch} {Z : State} {b : Heap} {H : List Cel}
theorem con2 (vs : List Value) (i : Nat) (p : Int32) (a n : Int32) (v : Int64) (f : Int32) (hi : vs[i]? = some (.int p)) (hl : i < 1000) :
    Con tables_1 l Z b y2 method_3_code 10 (some .boolean) R2 [.ref (ad b.size 0), .int (Int32.ofNat i), .int a, .int n, .long v, .int f] [.inl (.byte, vs)] (is (some (.int (sm (Int32.ofNat i) a n v f p))) [.inl (.byte, vs)]) := by
  have g0 : i < 2147483648 := by omega
  refine c2 _ _ _ _ _ _ (r2 100 ?_)
  by_cases h1 : Int32.ofNat i - a < 0
  · by_cases h4 : p &&& 255 = f &&& 255 <;> simp only [↓S2, ↓B0, ↓setN_c, ↓idxN_c, ↓reduceIte, B1, List.length_cons, List.length_nil, List.mem_cons, List.not_mem_nil, or_false, true_or, or_true, true_and, and_true, and_self, not_true_eq_false, not_false_eq_true, eq_self, ne_eq, Nat.zero_le, Nat.le_refl, Nat.reduceAdd, Nat.reduceSub, Nat.reduceEqDiff, Nat.reduceLeDiff, Int32.reduceLT, Int32.reduceLE, Int32.reduceAdd, Int32.reduceSub, Int32.reduceMul, Int32.reduceToNatClampNeg, Int32.reduceOfNat, Int32.reduceOfInt, Int64.reduceLT, Int64.reduceAdd, Int64.reduceSub, Int64.reduceMul, String.reduceEq, reduceCtorEq, room_c, room_s, h1, ↓idx_lt g0 hi, h4, sm] <;> exact is_self
  · by_cases h2 : Int32.ofNat i - a < n
    · by_cases h3 : Int32.ofNat i - a < n - 1
      · by_cases h4 : p &&& 255 = (XT.ushrL v (7 * (Int32.ofNat i - a)) &&& 127).toInt32 ||| 128 <;> simp only [↓S2, ↓B0, ↓setN_c, ↓idxN_c, ↓reduceIte, B1, List.length_cons, List.length_nil, List.mem_cons, List.not_mem_nil, or_false, true_or, or_true, true_and, and_true, and_self, not_true_eq_false, not_false_eq_true, eq_self, ne_eq, Nat.zero_le, Nat.le_refl, Nat.reduceAdd, Nat.reduceSub, Nat.reduceEqDiff, Nat.reduceLeDiff, Int32.reduceLT, Int32.reduceLE, Int32.reduceAdd, Int32.reduceSub, Int32.reduceMul, Int32.reduceToNatClampNeg, Int32.reduceOfNat, Int32.reduceOfInt, Int64.reduceLT, Int64.reduceAdd, Int64.reduceSub, Int64.reduceMul, String.reduceEq, reduceCtorEq, room_c, room_s, h1, h2, h3, ↓idx_lt g0 hi, h4, sm] <;> exact is_self
      · by_cases h4 : p &&& 255 = (XT.ushrL v (7 * (Int32.ofNat i - a)) &&& 127).toInt32 <;> simp only [↓S2, ↓B0, ↓setN_c, ↓idxN_c, ↓reduceIte, B1, List.length_cons, List.length_nil, List.mem_cons, List.not_mem_nil, or_false, true_or, or_true, true_and, and_true, and_self, not_true_eq_false, not_false_eq_true, eq_self, ne_eq, Nat.zero_le, Nat.le_refl, Nat.reduceAdd, Nat.reduceSub, Nat.reduceEqDiff, Nat.reduceLeDiff, Int32.reduceLT, Int32.reduceLE, Int32.reduceAdd, Int32.reduceSub, Int32.reduceMul, Int32.reduceToNatClampNeg, Int32.reduceOfNat, Int32.reduceOfInt, Int64.reduceLT, Int64.reduceAdd, Int64.reduceSub, Int64.reduceMul, String.reduceEq, reduceCtorEq, room_c, room_s, h1, h2, h3, ↓idx_lt g0 hi, h4, sm] <;> exact is_self
    · by_cases h4 : p &&& 255 = f &&& 255 <;> simp only [↓S2, ↓B0, ↓setN_c, ↓idxN_c, ↓reduceIte, B1, List.length_cons, List.length_nil, List.mem_cons, List.not_mem_nil, or_false, true_or, or_true, true_and, and_true, and_self, not_true_eq_false, not_false_eq_true, eq_self, ne_eq, Nat.zero_le, Nat.le_refl, Nat.reduceAdd, Nat.reduceSub, Nat.reduceEqDiff, Nat.reduceLeDiff, Int32.reduceLT, Int32.reduceLE, Int32.reduceAdd, Int32.reduceSub, Int32.reduceMul, Int32.reduceToNatClampNeg, Int32.reduceOfNat, Int32.reduceOfInt, Int64.reduceLT, Int64.reduceAdd, Int64.reduceSub, Int64.reduceMul, String.reduceEq, reduceCtorEq, room_c, room_s, h1, h2, ↓idx_lt g0 hi, h4, sm] <;> exact is_self
theorem con1_0_1 (f x : Int32)  (h0 : x &&& -128 = 0) : Con tables_1 l Z b y1 prog_55_method_3_code 5 (some .int) R1 [.ref (ad b.size 0), .int 0, .int x] [.inl (.byte, [.int f, .int f, .int f, .int f, .int f, .int f, .int f, .int f, .int f, .int f])] (is (some (.int 1)) [.inl (.byte, [.int (nar .byte x), .int f, .int f, .int f, .int f, .int f, .int f, .int f, .int f, .int f])]) := by
  refine c1 _ _ _ (r1 200 ?_)
  simp only [↓S1, ↓B0, ↓idx_c, ↓setN_c, ↓idxN_c, ↓reduceIte, B1, List.length_cons, List.length_nil, List.mem_cons, List.not_mem_nil, or_false, true_or, or_true, true_and, and_true, and_self, not_true_eq_false, not_false_eq_true, eq_self, ne_eq, Nat.zero_le, Nat.le_refl, Nat.reduceAdd, Nat.reduceSub, Nat.reduceEqDiff, Nat.reduceLeDiff, Int32.reduceLT, Int32.reduceLE, Int32.reduceAdd, Int32.reduceSub, Int32.reduceMul, Int32.reduceToNatClampNeg, Int32.reduceOfNat, Int32.reduceOfInt, Int64.reduceLT, Int64.reduceAdd, Int64.reduceSub, Int64.reduceMul, String.reduceEq, reduceCtorEq, room_c, room_s, h0]
  exact is_self
theorem con1_0_2 (f x : Int32) (h0 : ¬ x &&& -128 = 0) (h1 : (XT.ushr x 7) &&& -128 = 0) : Con tables_1 l Z b y1 prog_55_method_3_code 5 (some .int) R1 [.ref (ad b.size 0), .int 0, .int x] [.inl (.byte, [.int f, .int f, .int f, .int f, .int f, .int f, .int f, .int f, .int f, .int f])] (is (some (.int 2)) [.inl (.byte, [.int (nar .byte ((x &&& 127) ||| 128)), .int (nar .byte (XT.ushr x 7)), .int f, .int f, .int f, .int f, .int f, .int f, .int f, .int f])]) := by
  refine c1 _ _ _ (r1 200 ?_)
  simp only [↓S1, ↓B0, ↓idx_c, ↓setN_c, ↓idxN_c, ↓reduceIte, B1, List.length_cons, List.length_nil, List.mem_cons, List.not_mem_nil, or_false, true_or, or_true, true_and, and_true, and_self, not_true_eq_false, not_false_eq_true, eq_self, ne_eq, Nat.zero_le, Nat.le_refl, Nat.reduceAdd, Nat.reduceSub, Nat.reduceEqDiff, Nat.reduceLeDiff, Int32.reduceLT, Int32.reduceLE, Int32.reduceAdd, Int32.reduceSub, Int32.reduceMul, Int32.reduceToNatClampNeg, Int32.reduceOfNat, Int32.reduceOfInt, Int64.reduceLT, Int64.reduceAdd, Int64.reduceSub, Int64.reduceMul, String.reduceEq, reduceCtorEq, room_c, room_s, h0, h1]
  exact is_self
theorem con1_0_3 (f x : Int32) (h0 : ¬ x &&& -128 = 0) (h1 : ¬ (XT.ushr x 7) &&& -128 = 0) (h2 : (XT.ushr (XT.ushr x 7) 7) &&& -128 = 0) : Con tables_1 l Z b y1 prog_55_method_3_code 5 (some .int) R1 [.ref (ad b.size 0), .int 0, .int x] [.inl (.byte, [.int f, .int f, .int f, .int f, .int f, .int f, .int f, .int f, .int f, .int f])] (is (some (.int 3)) [.inl (.byte, [.int (nar .byte ((x &&& 127) ||| 128)), .int (nar .byte (((XT.ushr x 7) &&& 127) ||| 128)), .int (nar .byte (XT.ushr (XT.ushr x 7) 7)), .int f, .int f, .int f, .int f, .int f, .int f, .int f])]) := by
  refine c1 _ _ _ (r1 200 ?_)
  simp only [↓S1, ↓B0, ↓idx_c, ↓setN_c, ↓idxN_c, ↓reduceIte, B1, List.length_cons, List.length_nil, List.mem_cons, List.not_mem_nil, or_false, true_or, or_true, true_and, and_true, and_self, not_true_eq_false, not_false_eq_true, eq_self, ne_eq, Nat.zero_le, Nat.le_refl, Nat.reduceAdd, Nat.reduceSub, Nat.reduceEqDiff, Nat.reduceLeDiff, Int32.reduceLT, Int32.reduceLE, Int32.reduceAdd, Int32.reduceSub, Int32.reduceMul, Int32.reduceToNatClampNeg, Int32.reduceOfNat, Int32.reduceOfInt, Int64.reduceLT, Int64.reduceAdd, Int64.reduceSub, Int64.reduceMul, String.reduceEq, reduceCtorEq, room_c, room_s, h0, h1, h2]
  exact is_self
theorem con1_0_4 (f x : Int32) (h0 : ¬ x &&& -128 = 0) (h1 : ¬ (XT.ushr x 7) &&& -128 = 0) (h2 : ¬ (XT.ushr (XT.ushr x 7) 7) &&& -128 = 0) (h3 : (XT.ushr (XT.ushr (XT.ushr x 7) 7) 7) &&& -128 = 0) : Con tables_1 l Z b y1 prog_55_method_3_code 5 (some .int) R1 [.ref (ad b.size 0), .int 0, .int x] [.inl (.byte, [.int f, .int f, .int f, .int f, .int f, .int f, .int f, .int f, .int f, .int f])] (is (some (.int 4)) [.inl (.byte, [.int (nar .byte ((x &&& 127) ||| 128)), .int (nar .byte (((XT.ushr x 7) &&& 127) ||| 128)), .int (nar .byte (((XT.ushr (XT.ushr x 7) 7) &&& 127) ||| 128)), .int (nar .byte (XT.ushr (XT.ushr (XT.ushr x 7) 7) 7)), .int f, .int f, .int f, .int f, .int f, .int f])]) := by
  refine c1 _ _ _ (r1 200 ?_)
  simp only [↓S1, ↓B0, ↓idx_c, ↓setN_c, ↓idxN_c, ↓reduceIte, B1, List.length_cons, List.length_nil, List.mem_cons, List.not_mem_nil, or_false, true_or, or_true, true_and, and_true, and_self, not_true_eq_false, not_false_eq_true, eq_self, ne_eq, Nat.zero_le, Nat.le_refl, Nat.reduceAdd, Nat.reduceSub, Nat.reduceEqDiff, Nat.reduceLeDiff, Int32.reduceLT, Int32.reduceLE, Int32.reduceAdd, Int32.reduceSub, Int32.reduceMul, Int32.reduceToNatClampNeg, Int32.reduceOfNat, Int32.reduceOfInt, Int64.reduceLT, Int64.reduceAdd, Int64.reduceSub, Int64.reduceMul, String.reduceEq, reduceCtorEq, room_c, room_s, h0, h1, h2, h3]
  exact is_self
theorem con1_0_5 (f x : Int32) (h0 : ¬ x &&& -128 = 0) (h1 : ¬ (XT.ushr x 7) &&& -128 = 0) (h2 : ¬ (XT.ushr (XT.ushr x 7) 7) &&& -128 = 0) (h3 : ¬ (XT.ushr (XT.ushr (XT.ushr x 7) 7) 7) &&& -128 = 0) (h4 : (XT.ushr (XT.ushr (XT.ushr (XT.ushr x 7) 7) 7) 7) &&& -128 = 0) : Con tables_1 l Z b y1 prog_55_method_3_code 5 (some .int) R1 [.ref (ad b.size 0), .int 0, .int x] [.inl (.byte, [.int f, .int f, .int f, .int f, .int f, .int f, .int f, .int f, .int f, .int f])] (is (some (.int 5)) [.inl (.byte, [.int (nar .byte ((x &&& 127) ||| 128)), .int (nar .byte (((XT.ushr x 7) &&& 127) ||| 128)), .int (nar .byte (((XT.ushr (XT.ushr x 7) 7) &&& 127) ||| 128)), .int (nar .byte (((XT.ushr (XT.ushr (XT.ushr x 7) 7) 7) &&& 127) ||| 128)), .int (nar .byte (XT.ushr (XT.ushr (XT.ushr (XT.ushr x 7) 7) 7) 7)), .int f, .int f, .int f, .int f, .int f])]) := by
  refine c1 _ _ _ (r1 200 ?_)
  simp only [↓S1, ↓B0, ↓idx_c, ↓setN_c, ↓idxN_c, ↓reduceIte, B1, List.length_cons, List.length_nil, List.mem_cons, List.not_mem_nil, or_false, true_or, or_true, true_and, and_true, and_self, not_true_eq_false, not_false_eq_true, eq_self, ne_eq, Nat.zero_le, Nat.le_refl, Nat.reduceAdd, Nat.reduceSub, Nat.reduceEqDiff, Nat.reduceLeDiff, Int32.reduceLT, Int32.reduceLE, Int32.reduceAdd, Int32.reduceSub, Int32.reduceMul, Int32.reduceToNatClampNeg, Int32.reduceOfNat, Int32.reduceOfInt, Int64.reduceLT, Int64.reduceAdd, Int64.reduceSub, Int64.reduceMul, String.reduceEq, reduceCtorEq, room_c, room_s, h0, h1, h2, h3, h4]
  exact is_self
theorem con1_1_1 (f x : Int32)  (h0 : x &&& -128 = 0) : Con tables_1 l Z b y1 prog_55_method_3_code 5 (some .int) R1 [.ref (ad b.size 0), .int 1, .int x] [.inl (.byte, [.int f, .int f, .int f, .int f, .int f, .int f, .int f, .int f, .int f, .int f])] (is (some (.int 2)) [.inl (.byte, [.int f, .int (nar .byte x), .int f, .int f, .int f, .int f, .int f, .int f, .int f, .int f])]) := by
  refine c1 _ _ _ (r1 200 ?_)
  simp only [↓S1, ↓B0, ↓idx_c, ↓setN_c, ↓idxN_c, ↓reduceIte, B1, List.length_cons, List.length_nil, List.mem_cons, List.not_mem_nil, or_false, true_or, or_true, true_and, and_true, and_self, not_true_eq_false, not_false_eq_true, eq_self, ne_eq, Nat.zero_le, Nat.le_refl, Nat.reduceAdd, Nat.reduceSub, Nat.reduceEqDiff, Nat.reduceLeDiff, Int32.reduceLT, Int32.reduceLE, Int32.reduceAdd, Int32.reduceSub, Int32.reduceMul, Int32.reduceToNatClampNeg, Int32.reduceOfNat, Int32.reduceOfInt, Int64.reduceLT, Int64.reduceAdd, Int64.reduceSub, Int64.reduceMul, String.reduceEq, reduceCtorEq, room_c, room_s, h0]
  exact is_self
theorem con1_1_2 (f x : Int32) (h0 : ¬ x &&& -128 = 0) (h1 : (XT.ushr x 7) &&& -128 = 0) : Con tables_1 l Z b y1 prog_55_method_3_code 5 (some .int) R1 [.ref (ad b.size 0), .int 1, .int x] [.inl (.byte, [.int f, .int f, .int f, .int f, .int f, .int f, .int f, .int f, .int f, .int f])] (is (some (.int 3)) [.inl (.byte, [.int f, .int (nar .byte ((x &&& 127) ||| 128)), .int (nar .byte (XT.ushr x 7)), .int f, .int f, .int f, .int f, .int f, .int f, .int f])]) := by
  refine c1 _ _ _ (r1 200 ?_)
  simp only [↓S1, ↓B0, ↓idx_c, ↓setN_c, ↓idxN_c, ↓reduceIte, B1, List.length_cons, List.length_nil, List.mem_cons, List.not_mem_nil, or_false, true_or, or_true, true_and, and_true, and_self, not_true_eq_false, not_false_eq_true, eq_self, ne_eq, Nat.zero_le, Nat.le_refl, Nat.reduceAdd, Nat.reduceSub, Nat.reduceEqDiff, Nat.reduceLeDiff, Int32.reduceLT, Int32.reduceLE, Int32.reduceAdd, Int32.reduceSub, Int32.reduceMul, Int32.reduceToNatClampNeg, Int32.reduceOfNat, Int32.reduceOfInt, Int64.reduceLT, Int64.reduceAdd, Int64.reduceSub, Int64.reduceMul, String.reduceEq, reduceCtorEq, room_c, room_s, h0, h1]
  exact is_self
theorem con1_1_3 (f x : Int32) (h0 : ¬ x &&& -128 = 0) (h1 : ¬ (XT.ushr x 7) &&& -128 = 0) (h2 : (XT.ushr (XT.ushr x 7) 7) &&& -128 = 0) : Con tables_1 l Z b y1 prog_55_method_3_code 5 (some .int) R1 [.ref (ad b.size 0), .int 1, .int x] [.inl (.byte, [.int f, .int f, .int f, .int f, .int f, .int f, .int f, .int f, .int f, .int f])] (is (some (.int 4)) [.inl (.byte, [.int f, .int (nar .byte ((x &&& 127) ||| 128)), .int (nar .byte (((XT.ushr x 7) &&& 127) ||| 128)), .int (nar .byte (XT.ushr (XT.ushr x 7) 7)), .int f, .int f, .int f, .int f, .int f, .int f])]) := by
  refine c1 _ _ _ (r1 200 ?_)
  simp only [↓S1, ↓B0, ↓idx_c, ↓setN_c, ↓idxN_c, ↓reduceIte, B1, List.length_cons, List.length_nil, List.mem_cons, List.not_mem_nil, or_false, true_or, or_true, true_and, and_true, and_self, not_true_eq_false, not_false_eq_true, eq_self, ne_eq, Nat.zero_le, Nat.le_refl, Nat.reduceAdd, Nat.reduceSub, Nat.reduceEqDiff, Nat.reduceLeDiff, Int32.reduceLT, Int32.reduceLE, Int32.reduceAdd, Int32.reduceSub, Int32.reduceMul, Int32.reduceToNatClampNeg, Int32.reduceOfNat, Int32.reduceOfInt, Int64.reduceLT, Int64.reduceAdd, Int64.reduceSub, Int64.reduceMul, String.reduceEq, reduceCtorEq, room_c, room_s, h0, h1, h2]
  exact is_self
theorem con1_1_4 (f x : Int32) (h0 : ¬ x &&& -128 = 0) (h1 : ¬ (XT.ushr x 7) &&& -128 = 0) (h2 : ¬ (XT.ushr (XT.ushr x 7) 7) &&& -128 = 0) (h3 : (XT.ushr (XT.ushr (XT.ushr x 7) 7) 7) &&& -128 = 0) : Con tables_1 l Z b y1 prog_55_method_3_code 5 (some .int) R1 [.ref (ad b.size 0), .int 1, .int x] [.inl (.byte, [.int f, .int f, .int f, .int f, .int f, .int f, .int f, .int f, .int f, .int f])] (is (some (.int 5)) [.inl (.byte, [.int f, .int (nar .byte ((x &&& 127) ||| 128)), .int (nar .byte (((XT.ushr x 7) &&& 127) ||| 128)), .int (nar .byte (((XT.ushr (XT.ushr x 7) 7) &&& 127) ||| 128)), .int (nar .byte (XT.ushr (XT.ushr (XT.ushr x 7) 7) 7)), .int f, .int f, .int f, .int f, .int f])]) := by
  refine c1 _ _ _ (r1 200 ?_)
  simp only [↓S1, ↓B0, ↓idx_c, ↓setN_c, ↓idxN_c, ↓reduceIte, B1, List.length_cons, List.length_nil, List.mem_cons, List.not_mem_nil, or_false, true_or, or_true, true_and, and_true, and_self, not_true_eq_false, not_false_eq_true, eq_self, ne_eq, Nat.zero_le, Nat.le_refl, Nat.reduceAdd, Nat.reduceSub, Nat.reduceEqDiff, Nat.reduceLeDiff, Int32.reduceLT, Int32.reduceLE, Int32.reduceAdd, Int32.reduceSub, Int32.reduceMul, Int32.reduceToNatClampNeg, Int32.reduceOfNat, Int32.reduceOfInt, Int64.reduceLT, Int64.reduceAdd, Int64.reduceSub, Int64.reduceMul, String.reduceEq, reduceCtorEq, room_c, room_s, h0, h1, h2, h3]
  exact is_self
theorem con1_1_5 (f x : Int32) (h0 : ¬ x &&& -128 = 0) (h1 : ¬ (XT.ushr x 7) &&& -128 = 0) (h2 : ¬ (XT.ushr (XT.ushr x 7) 7) &&& -128 = 0) (h3 : ¬ (XT.ushr (XT.ushr (XT.ushr x 7) 7) 7) &&& -128 = 0) (h4 : (XT.ushr (XT.ushr (XT.ushr (XT.ushr x 7) 7) 7) 7) &&& -128 = 0) : Con tables_1 l Z b y1 prog_55_method_3_code 5 (some .int) R1 [.ref (ad b.size 0), .int 1, .int x] [.inl (.byte, [.int f, .int f, .int f, .int f, .int f, .int f, .int f, .int f, .int f, .int f])] (is (some (.int 6)) [.inl (.byte, [.int f, .int (nar .byte ((x &&& 127) ||| 128)), .int (nar .byte (((XT.ushr x 7) &&& 127) ||| 128)), .int (nar .byte (((XT.ushr (XT.ushr x 7) 7) &&& 127) ||| 128)), .int (nar .byte (((XT.ushr (XT.ushr (XT.ushr x 7) 7) 7) &&& 127) ||| 128)), .int (nar .byte (XT.ushr (XT.ushr (XT.ushr (XT.ushr x 7) 7) 7) 7)), .int f, .int f, .int f, .int f])]) := by
  refine c1 _ _ _ (r1 200 ?_)
  simp only [↓S1, ↓B0, ↓idx_c, ↓setN_c, ↓idxN_c, ↓reduceIte, B1, List.length_cons, List.length_nil, List.mem_cons, List.not_mem_nil, or_false, true_or, or_true, true_and, and_true, and_self, not_true_eq_false, not_false_eq_true, eq_self, ne_eq, Nat.zero_le, Nat.le_refl, Nat.reduceAdd, Nat.reduceSub, Nat.reduceEqDiff, Nat.reduceLeDiff, Int32.reduceLT, Int32.reduceLE, Int32.reduceAdd, Int32.reduceSub, Int32.reduceMul, Int32.reduceToNatClampNeg, Int32.reduceOfNat, Int32.reduceOfInt, Int64.reduceLT, Int64.reduceAdd, Int64.reduceSub, Int64.reduceMul, String.reduceEq, reduceCtorEq, room_c, room_s, h0, h1, h2, h3, h4]
  exact is_self
theorem con1_2_1 (f x : Int32)  (h0 : x &&& -128 = 0) : Con tables_1 l Z b y1 prog_55_method_3_code 5 (some .int) R1 [.ref (ad b.size 0), .int 2, .int x] [.inl (.byte, [.int f, .int f, .int f, .int f, .int f, .int f, .int f, .int f, .int f, .int f])] (is (some (.int 3)) [.inl (.byte, [.int f, .int f, .int (nar .byte x), .int f, .int f, .int f, .int f, .int f, .int f, .int f])]) := by
  refine c1 _ _ _ (r1 200 ?_)
  simp only [↓S1, ↓B0, ↓idx_c, ↓setN_c, ↓idxN_c, ↓reduceIte, B1, List.length_cons, List.length_nil, List.mem_cons, List.not_mem_nil, or_false, true_or, or_true, true_and, and_true, and_self, not_true_eq_false, not_false_eq_true, eq_self, ne_eq, Nat.zero_le, Nat.le_refl, Nat.reduceAdd, Nat.reduceSub, Nat.reduceEqDiff, Nat.reduceLeDiff, Int32.reduceLT, Int32.reduceLE, Int32.reduceAdd, Int32.reduceSub, Int32.reduceMul, Int32.reduceToNatClampNeg, Int32.reduceOfNat, Int32.reduceOfInt, Int64.reduceLT, Int64.reduceAdd, Int64.reduceSub, Int64.reduceMul, String.reduceEq, reduceCtorEq, room_c, room_s, h0]
  exact is_self
theorem con1_2_2 (f x : Int32) (h0 : ¬ x &&& -128 = 0) (h1 : (XT.ushr x 7) &&& -128 = 0) : Con tables_1 l Z b y1 prog_55_method_3_code 5 (some .int) R1 [.ref (ad b.size 0), .int 2, .int x] [.inl (.byte, [.int f, .int f, .int f, .int f, .int f, .int f, .int f, .int f, .int f, .int f])] (is (some (.int 4)) [.inl (.byte, [.int f, .int f, .int (nar .byte ((x &&& 127) ||| 128)), .int (nar .byte (XT.ushr x 7)), .int f, .int f, .int f, .int f, .int f, .int f])]) := by
  refine c1 _ _ _ (r1 200 ?_)
  simp only [↓S1, ↓B0, ↓idx_c, ↓setN_c, ↓idxN_c, ↓reduceIte, B1, List.length_cons, List.length_nil, List.mem_cons, List.not_mem_nil, or_false, true_or, or_true, true_and, and_true, and_self, not_true_eq_false, not_false_eq_true, eq_self, ne_eq, Nat.zero_le, Nat.le_refl, Nat.reduceAdd, Nat.reduceSub, Nat.reduceEqDiff, Nat.reduceLeDiff, Int32.reduceLT, Int32.reduceLE, Int32.reduceAdd, Int32.reduceSub, Int32.reduceMul, Int32.reduceToNatClampNeg, Int32.reduceOfNat, Int32.reduceOfInt, Int64.reduceLT, Int64.reduceAdd, Int64.reduceSub, Int64.reduceMul, String.reduceEq, reduceCtorEq, room_c, room_s, h0, h1]
  exact is_self
theorem con1_2_3 (f x : Int32) (h0 : ¬ x &&& -128 = 0) (h1 : ¬ (XT.ushr x 7) &&& -128 = 0) (h2 : (XT.ushr (XT.ushr x 7) 7) &&& -128 = 0) : Con tables_1 l Z b y1 prog_55_method_3_code 5 (some .int) R1 [.ref (ad b.size 0), .int 2, .int x] [.inl (.byte, [.int f, .int f, .int f, .int f, .int f, .int f, .int f, .int f, .int f, .int f])] (is (some (.int 5)) [.inl (.byte, [.int f, .int f, .int (nar .byte ((x &&& 127) ||| 128)), .int (nar .byte (((XT.ushr x 7) &&& 127) ||| 128)), .int (nar .byte (XT.ushr (XT.ushr x 7) 7)), .int f, .int f, .int f, .int f, .int f])]) := by
  refine c1 _ _ _ (r1 200 ?_)
  simp only [↓S1, ↓B0, ↓idx_c, ↓setN_c, ↓idxN_c, ↓reduceIte, B1, List.length_cons, List.length_nil, List.mem_cons, List.not_mem_nil, or_false, true_or, or_true, true_and, and_true, and_self, not_true_eq_false, not_false_eq_true, eq_self, ne_eq, Nat.zero_le, Nat.le_refl, Nat.reduceAdd, Nat.reduceSub, Nat.reduceEqDiff, Nat.reduceLeDiff, Int32.reduceLT, Int32.reduceLE, Int32.reduceAdd, Int32.reduceSub, Int32.reduceMul, Int32.reduceToNatClampNeg, Int32.reduceOfNat, Int32.reduceOfInt, Int64.reduceLT, Int64.reduceAdd, Int64.reduceSub, Int64.reduceMul, String.reduceEq, reduceCtorEq, room_c, room_s, h0, h1, h2]
  exact is_self
theorem con1_2_4 (f x : Int32) (h0 : ¬ x &&& -128 = 0) (h1 : ¬ (XT.ushr x 7) &&& -128 = 0) (h2 : ¬ (XT.ushr (XT.ushr x 7) 7) &&& -128 = 0) (h3 : (XT.ushr (XT.ushr (XT.ushr x 7) 7) 7) &&& -128 = 0) : Con tables_1 l Z b y1 prog_55_method_3_code 5 (some .int) R1 [.ref (ad b.size 0), .int 2, .int x] [.inl (.byte, [.int f, .int f, .int f, .int f, .int f, .int f, .int f, .int f, .int f, .int f])] (is (some (.int 6)) [.inl (.byte, [.int f, .int f, .int (nar .byte ((x &&& 127) ||| 128)), .int (nar .byte (((XT.ushr x 7) &&& 127) ||| 128)), .int (nar .byte (((XT.ushr (XT.ushr x 7) 7) &&& 127) ||| 128)), .int (nar .byte (XT.ushr (XT.ushr (XT.ushr x 7) 7) 7)), .int f, .int f, .int f, .int f])]) := by
  refine c1 _ _ _ (r1 200 ?_)
  simp only [↓S1, ↓B0, ↓idx_c, ↓setN_c, ↓idxN_c, ↓reduceIte, B1, List.length_cons, List.length_nil, List.mem_cons, List.not_mem_nil, or_false, true_or, or_true, true_and, and_true, and_self, not_true_eq_false, not_false_eq_true, eq_self, ne_eq, Nat.zero_le, Nat.le_refl, Nat.reduceAdd, Nat.reduceSub, Nat.reduceEqDiff, Nat.reduceLeDiff, Int32.reduceLT, Int32.reduceLE, Int32.reduceAdd, Int32.reduceSub, Int32.reduceMul, Int32.reduceToNatClampNeg, Int32.reduceOfNat, Int32.reduceOfInt, Int64.reduceLT, Int64.reduceAdd, Int64.reduceSub, Int64.reduceMul, String.reduceEq, reduceCtorEq, room_c, room_s, h0, h1, h2, h3]
  exact is_self
theorem con1_2_5 (f x : Int32) (h0 : ¬ x &&& -128 = 0) (h1 : ¬ (XT.ushr x 7) &&& -128 = 0) (h2 : ¬ (XT.ushr (XT.ushr x 7) 7) &&& -128 = 0) (h3 : ¬ (XT.ushr (XT.ushr (XT.ushr x 7) 7) 7) &&& -128 = 0) (h4 : (XT.ushr (XT.ushr (XT.ushr (XT.ushr x 7) 7) 7) 7) &&& -128 = 0) : Con tables_1 l Z b y1 prog_55_method_3_code 5 (some .int) R1 [.ref (ad b.size 0), .int 2, .int x] [.inl (.byte, [.int f, .int f, .int f, .int f, .int f, .int f, .int f, .int f, .int f, .int f])] (is (some (.int 7)) [.inl (.byte, [.int f, .int f, .int (nar .byte ((x &&& 127) ||| 128)), .int (nar .byte (((XT.ushr x 7) &&& 127) ||| 128)), .int (nar .byte (((XT.ushr (XT.ushr x 7) 7) &&& 127) ||| 128)), .int (nar .byte (((XT.ushr (XT.ushr (XT.ushr x 7) 7) 7) &&& 127) ||| 128)), .int (nar .byte (XT.ushr (XT.ushr (XT.ushr (XT.ushr x 7) 7) 7) 7)), .int f, .int f, .int f])]) := by
  refine c1 _ _ _ (r1 200 ?_)
  simp only [↓S1, ↓B0, ↓idx_c, ↓setN_c, ↓idxN_c, ↓reduceIte, B1, List.length_cons, List.length_nil, List.mem_cons, List.not_mem_nil, or_false, true_or, or_true, true_and, and_true, and_self, not_true_eq_false, not_false_eq_true, eq_self, ne_eq, Nat.zero_le, Nat.le_refl, Nat.reduceAdd, Nat.reduceSub, Nat.reduceEqDiff, Nat.reduceLeDiff, Int32.reduceLT, Int32.reduceLE, Int32.reduceAdd, Int32.reduceSub, Int32.reduceMul, Int32.reduceToNatClampNeg, Int32.reduceOfNat, Int32.reduceOfInt, Int64.reduceLT, Int64.reduceAdd, Int64.reduceSub, Int64.reduceMul, String.reduceEq, reduceCtorEq, room_c, room_s, h0, h1, h2, h3, h4]
  exact is_self
theorem con1_3_1 (f x : Int32)  (h0 : x &&& -128 = 0) : Con tables_1 l Z b y1 prog_55_method_3_code 5 (some .int) R1 [.ref (ad b.size 0), .int 3, .int x] [.inl (.byte, [.int f, .int f, .int f, .int f, .int f, .int f, .int f, .int f, .int f, .int f])] (is (some (.int 4)) [.inl (.byte, [.int f, .int f, .int f, .int (nar .byte x), .int f, .int f, .int f, .int f, .int f, .int f])]) := by
  refine c1 _ _ _ (r1 200 ?_)
  simp only [↓S1, ↓B0, ↓idx_c, ↓setN_c, ↓idxN_c, ↓reduceIte, B1, List.length_cons, List.length_nil, List.mem_cons, List.not_mem_nil, or_false, true_or, or_true, true_and, and_true, and_self, not_true_eq_false, not_false_eq_true, eq_self, ne_eq, Nat.zero_le, Nat.le_refl, Nat.reduceAdd, Nat.reduceSub, Nat.reduceEqDiff, Nat.reduceLeDiff, Int32.reduceLT, Int32.reduceLE, Int32.reduceAdd, Int32.reduceSub, Int32.reduceMul, Int32.reduceToNatClampNeg, Int32.reduceOfNat, Int32.reduceOfInt, Int64.reduceLT, Int64.reduceAdd, Int64.reduceSub, Int64.reduceMul, String.reduceEq, reduceCtorEq, room_c, room_s, h0]
  exact is_self
theorem con1_3_2 (f x : Int32) (h0 : ¬ x &&& -128 = 0) (h1 : (XT.ushr x 7) &&& -128 = 0) : Con tables_1 l Z b y1 prog_55_method_3_code 5 (some .int) R1 [.ref (ad b.size 0), .int 3, .int x] [.inl (.byte, [.int f, .int f, .int f, .int f, .int f, .int f, .int f, .int f, .int f, .int f])] (is (some (.int 5)) [.inl (.byte, [.int f, .int f, .int f, .int (nar .byte ((x &&& 127) ||| 128)), .int (nar .byte (XT.ushr x 7)), .int f, .int f, .int f, .int f, .int f])]) := by
  refine c1 _ _ _ (r1 200 ?_)
  simp only [↓S1, ↓B0, ↓idx_c, ↓setN_c, ↓idxN_c, ↓reduceIte, B1, List.length_cons, List.length_nil, List.mem_cons, List.not_mem_nil, or_false, true_or, or_true, true_and, and_true, and_self, not_true_eq_false, not_false_eq_true, eq_self, ne_eq, Nat.zero_le, Nat.le_refl, Nat.reduceAdd, Nat.reduceSub, Nat.reduceEqDiff, Nat.reduceLeDiff, Int32.reduceLT, Int32.reduceLE, Int32.reduceAdd, Int32.reduceSub, Int32.reduceMul, Int32.reduceToNatClampNeg, Int32.reduceOfNat, Int32.reduceOfInt, Int64.reduceLT, Int64.reduceAdd, Int64.reduceSub, Int64.reduceMul, String.reduceEq, reduceCtorEq, room_c, room_s, h0, h1]
  exact is_self
theorem con1_3_3 (f x : Int32) (h0 : ¬ x &&& -128 = 0) (h1 : ¬ (XT.ushr x 7) &&& -128 = 0) (h2 : (XT.ushr (XT.ushr x 7) 7) &&& -128 = 0) : Con tables_1 l Z b y1 prog_55_method_3_code 5 (some .int) R1 [.ref (ad b.size 0), .int 3, .int x] [.inl (.byte, [.int f, .int f, .int f, .int f, .int f, .int f, .int f, .int f, .int f, .int f])] (is (some (.int 6)) [.inl (.byte, [.int f, .int f, .int f, .int (nar .byte ((x &&& 127) ||| 128)), .int (nar .byte (((XT.ushr x 7) &&& 127) ||| 128)), .int (nar .byte (XT.ushr (XT.ushr x 7) 7)), .int f, .int f, .int f, .int f])]) := by
  refine c1 _ _ _ (r1 200 ?_)
  simp only [↓S1, ↓B0, ↓idx_c, ↓setN_c, ↓idxN_c, ↓reduceIte, B1, List.length_cons, List.length_nil, List.mem_cons, List.not_mem_nil, or_false, true_or, or_true, true_and, and_true, and_self, not_true_eq_false, not_false_eq_true, eq_self, ne_eq, Nat.zero_le, Nat.le_refl, Nat.reduceAdd, Nat.reduceSub, Nat.reduceEqDiff, Nat.reduceLeDiff, Int32.reduceLT, Int32.reduceLE, Int32.reduceAdd, Int32.reduceSub, Int32.reduceMul, Int32.reduceToNatClampNeg, Int32.reduceOfNat, Int32.reduceOfInt, Int64.reduceLT, Int64.reduceAdd, Int64.reduceSub, Int64.reduceMul, String.reduceEq, reduceCtorEq, room_c, room_s, h0, h1, h2]
  exact is_self
theorem con1_3_4 (f x : Int32) (h0 : ¬ x &&& -128 = 0) (h1 : ¬ (XT.ushr x 7) &&& -128 = 0) (h2 : ¬ (XT.ushr (XT.ushr x 7) 7) &&& -128 = 0) (h3 : (XT.ushr (XT.ushr (XT.ushr x 7) 7) 7) &&& -128 = 0) : Con tables_1 l Z b y1 prog_55_method_3_code 5 (some .int) R1 [.ref (ad b.size 0), .int 3, .int x] [.inl (.byte, [.int f, .int f, .int f, .int f, .int f, .int f, .int f, .int f, .int f, .int f])] (is (some (.int 7)) [.inl (.byte, [.int f, .int f, .int f, .int (nar .byte ((x &&& 127) ||| 128)), .int (nar .byte (((XT.ushr x 7) &&& 127) ||| 128)), .int (nar .byte (((XT.ushr (XT.ushr x 7) 7) &&& 127) ||| 128)), .int (nar .byte (XT.ushr (XT.ushr (XT.ushr x 7) 7) 7)), .int f, .int f, .int f])]) := by
  refine c1 _ _ _ (r1 200 ?_)
  simp only [↓S1, ↓B0, ↓idx_c, ↓setN_c, ↓idxN_c, ↓reduceIte, B1, List.length_cons, List.length_nil, List.mem_cons, List.not_mem_nil, or_false, true_or, or_true, true_and, and_true, and_self, not_true_eq_false, not_false_eq_true, eq_self, ne_eq, Nat.zero_le, Nat.le_refl, Nat.reduceAdd, Nat.reduceSub, Nat.reduceEqDiff, Nat.reduceLeDiff, Int32.reduceLT, Int32.reduceLE, Int32.reduceAdd, Int32.reduceSub, Int32.reduceMul, Int32.reduceToNatClampNeg, Int32.reduceOfNat, Int32.reduceOfInt, Int64.reduceLT, Int64.reduceAdd, Int64.reduceSub, Int64.reduceMul, String.reduceEq, reduceCtorEq, room_c, room_s, h0, h1, h2, h3]
  exact is_self
theorem con1_3_5 (f x : Int32) (h0 : ¬ x &&& -128 = 0) (h1 : ¬ (XT.ushr x 7) &&& -128 = 0) (h2 : ¬ (XT.ushr (XT.ushr x 7) 7) &&& -128 = 0) (h3 : ¬ (XT.ushr (XT.ushr (XT.ushr x 7) 7) 7) &&& -128 = 0) (h4 : (XT.ushr (XT.ushr (XT.ushr (XT.ushr x 7) 7) 7) 7) &&& -128 = 0) : Con tables_1 l Z b y1 prog_55_method_3_code 5 (some .int) R1 [.ref (ad b.size 0), .int 3, .int x] [.inl (.byte, [.int f, .int f, .int f, .int f, .int f, .int f, .int f, .int f, .int f, .int f])] (is (some (.int 8)) [.inl (.byte, [.int f, .int f, .int f, .int (nar .byte ((x &&& 127) ||| 128)), .int (nar .byte (((XT.ushr x 7) &&& 127) ||| 128)), .int (nar .byte (((XT.ushr (XT.ushr x 7) 7) &&& 127) ||| 128)), .int (nar .byte (((XT.ushr (XT.ushr (XT.ushr x 7) 7) 7) &&& 127) ||| 128)), .int (nar .byte (XT.ushr (XT.ushr (XT.ushr (XT.ushr x 7) 7) 7) 7)), .int f, .int f])]) := by
  refine c1 _ _ _ (r1 200 ?_)
  simp only [↓S1, ↓B0, ↓idx_c, ↓setN_c, ↓idxN_c, ↓reduceIte, B1, List.length_cons, List.length_nil, List.mem_cons, List.not_mem_nil, or_false, true_or, or_true, true_and, and_true, and_self, not_true_eq_false, not_false_eq_true, eq_self, ne_eq, Nat.zero_le, Nat.le_refl, Nat.reduceAdd, Nat.reduceSub, Nat.reduceEqDiff, Nat.reduceLeDiff, Int32.reduceLT, Int32.reduceLE, Int32.reduceAdd, Int32.reduceSub, Int32.reduceMul, Int32.reduceToNatClampNeg, Int32.reduceOfNat, Int32.reduceOfInt, Int64.reduceLT, Int64.reduceAdd, Int64.reduceSub, Int64.reduceMul, String.reduceEq, reduceCtorEq, room_c, room_s, h0, h1, h2, h3, h4]
  exact is_self
theorem nar_and (w : Int32) : nar .byte w &&& 255 = w &&& 255 := by
  apply Int32.toInt_inj.mp
  have e1 : (nar .byte w &&& 255).toInt = (nar .byte w).toInt % 2 ^ 8 := Jvm.Kit.i32_mask _ _ (k := 8) (by decide) (by decide)
  have e2 : (w &&& 255).toInt = w.toInt % 2 ^ 8 := Jvm.Kit.i32_mask _ _ (k := 8) (by decide) (by decide)
  have e3 : (nar .byte w).toInt = w.toInt.bmod 256 := by
    show w.toInt8.toInt32.toInt = _
    rw [Int8.toInt_toInt32, Int32.toInt_toInt8]
  rw [e1, e2, e3, Int.bmod_def]
  split <;> omega
theorem nat32 (x : Int32) : (x.toBitVec.toNat : Int) = x.toInt % 2 ^ 32 := by
  have e : x.toInt = x.toBitVec.toInt := rfl
  have := x.toBitVec.isLt
  rw [e, BitVec.toInt_eq_toNat_cond]
  split <;> omega
theorem ushr7 (x : Int32) : (XT.ushr x 7).toInt = x.toInt % 2 ^ 32 / 128 := by
  have e : (XT.ushr x 7).toInt = (XT.ushr x 7).toBitVec.toInt := rfl
  have e2 : (XT.ushr x 7).toBitVec = x.toBitVec >>> 7 := rfl
  have n := nat32 x
  have := x.toBitVec.isLt
  rw [e, e2, BitVec.toInt_eq_toNat_cond, BitVec.toNat_ushiftRight, Nat.shiftRight_eq_div_pow]
  split <;> omega
theorem split7 (w : Int32) : (w &&& 127) + (w &&& -128) = w := by
  apply Int32.toBitVec_inj.mp
  rw [Int32.toBitVec_add, Int32.toBitVec_and, Int32.toBitVec_and, BitVec.add_eq_or_of_and_eq_zero, ← BitVec.and_or_distrib_left]
  · rw [show (127 : Int32).toBitVec ||| (-128 : Int32).toBitVec = BitVec.allOnes 32 by decide, BitVec.and_allOnes]
  · rw [show w.toBitVec &&& (127 : Int32).toBitVec &&& (w.toBitVec &&& (-128 : Int32).toBitVec) = w.toBitVec &&& ((127 : Int32).toBitVec &&& (-128 : Int32).toBitVec) by
      rw [BitVec.and_assoc, ← BitVec.and_assoc (127 : Int32).toBitVec, BitVec.and_comm (127 : Int32).toBitVec, BitVec.and_assoc, ← BitVec.and_assoc w.toBitVec w.toBitVec, BitVec.and_self], show (127 : Int32).toBitVec &&& (-128 : Int32).toBitVec = 0#32 by decide, BitVec.and_zero]
theorem m127 (x : Int32) : (x &&& 127).toInt = x.toInt % 2 ^ 7 := Jvm.Kit.i32_mask _ _ (k := 7) (by decide) (by decide)
theorem low (w : Int32) : (w &&& -128 = 0) ↔ (0 ≤ w.toInt ∧ w.toInt < 128) := by
  have s := split7 w
  have e := m127 w
  constructor
  · intro h
    rw [h, Int32.add_zero] at s
    rw [s] at e; omega
  · intro h
    have s2 : (w &&& 127) = w := Int32.toInt_inj.mp (by rw [e]; omega)
    rw [s2] at s
    have := congrArg (fun z => z - w) s
    simp only [Int32.add_comm w, Int32.add_sub_cancel, Int32.sub_self] at this
    exact this
theorem or_shl (x c : Int32) (s : Int32) (k : Nat) (hs : (s.toBitVec.smod 32).toNat = k) (hk : k < 32) (hx : x.toBitVec.toNat < 2 ^ k) : x ||| (c <<< s) = x + c * Int32.ofNat (2 ^ k) := by
  apply Int32.toBitVec_inj.mp
  rw [Int32.toBitVec_or, Int32.toBitVec_shiftLeft, Int32.toBitVec_add, Int32.toBitVec_mul]
  have e1 : c.toBitVec <<< (s.toBitVec.smod 32) = c.toBitVec <<< k := by rw [← hs]; rfl
  have e2 : c.toBitVec * (Int32.ofNat (2 ^ k)).toBitVec = c.toBitVec <<< k := by rw [BitVec.shiftLeft_eq_mul_twoPow]; congr 1; apply BitVec.eq_of_toNat_eq; rw [BitVec.toNat_twoPow]; simp [Int32.ofNat, Int32.toBitVec]
  rw [e1, e2, BitVec.add_eq_or_of_and_eq_zero]
  apply BitVec.eq_of_toNat_eq
  apply Nat.eq_of_testBit_eq
  intro i
  rw [BitVec.testBit_toNat, BitVec.getLsbD_and, BitVec.getLsbD_shiftLeft]
  by_cases q : i < k
  · simp [q]
  · have : x.toBitVec.getLsbD i = false := by
      rw [← BitVec.testBit_toNat]
      exact Nat.testBit_lt_two_pow (Nat.lt_of_lt_of_le hx (Nat.pow_le_pow_right (by decide) (by omega)))
    simp [this]
theorem or128 (m : Int32) (h0 : 0 ≤ m.toInt) (h1 : m.toInt < 128) : m ||| 128 = m + 128 := by
  have n := nat32 m
  have := or_shl m 1 7 7 (by decide) (by decide) (by omega)
  exact this
theorem top (w : Int32) : nar .byte ((w &&& 127) ||| 128) &&& 255 = (w &&& 127) + 128 := by
  have e := m127 w
  rw [nar_and, or128 _ (by omega) (by omega)]
  have s := a32 (x := w &&& 127) (q := 128) (c := 128) rfl (by omega) (by omega)
  apply Int32.toInt_inj.mp
  have m : ((w &&& 127) + 128 &&& 255).toInt = ((w &&& 127) + 128).toInt % 2 ^ 8 := Jvm.Kit.i32_mask _ _ (k := 8) (by decide) (by decide)
  rw [m]; omega
theorem last (w : Int32) (h0 : 0 ≤ w.toInt) (h1 : w.toInt < 128) : nar .byte w &&& 255 = w &&& 127 := by
  have e := m127 w
  rw [nar_and]
  apply Int32.toInt_inj.mp
  have m : (w &&& 255).toInt = w.toInt % 2 ^ 8 := Jvm.Kit.i32_mask _ _ (k := 8) (by decide) (by decide)
  rw [m, e]; omega
theorem vval (x : Int32) : (x.toInt64 &&& 4294967295).toInt = x.toInt % 2 ^ 32 := by
  have e : (x.toInt64 &&& 4294967295).toInt = x.toInt64.toInt % 2 ^ 32 := Jvm.Kit.i64_mask _ _ (k := 32) (by decide) (by decide)
  rw [e, Jvm.Kit.i64_of_i32]
theorem grp0 (x w : Int32) (h : w.toInt % 128 = x.toInt % 2 ^ 32 / 2 ^ 0 % 128) : (XT.ushrL (x.toInt64 &&& 4294967295) 0 &&& 127).toInt32 = w &&& 127 := by
  have v := vval x
  have q : (XT.ushrL (x.toInt64 &&& 4294967295) 0).toInt = (x.toInt64 &&& 4294967295).toInt / 2 ^ 0 := Jvm.Kit.i64_lushr (Jvm.Kit.i64_nonneg.mpr (by omega)) (k := 0) (by decide) (by decide)
  have m : (XT.ushrL (x.toInt64 &&& 4294967295) 0 &&& 127).toInt = (XT.ushrL (x.toInt64 &&& 4294967295) 0).toInt % 2 ^ 7 := Jvm.Kit.i64_mask _ _ (k := 7) (by decide) (by decide)
  have e := m127 w
  apply Int32.toInt_inj.mp
  rw [Jvm.Kit.i32_of_i64 (by omega) (by omega), m, q, v, e]; omega
theorem grp7 (x w : Int32) (h : w.toInt % 128 = x.toInt % 2 ^ 32 / 2 ^ 7 % 128) : (XT.ushrL (x.toInt64 &&& 4294967295) 7 &&& 127).toInt32 = w &&& 127 := by
  have v := vval x
  have q : (XT.ushrL (x.toInt64 &&& 4294967295) 7).toInt = (x.toInt64 &&& 4294967295).toInt / 2 ^ 7 := Jvm.Kit.i64_lushr (Jvm.Kit.i64_nonneg.mpr (by omega)) (k := 7) (by decide) (by decide)
  have m : (XT.ushrL (x.toInt64 &&& 4294967295) 7 &&& 127).toInt = (XT.ushrL (x.toInt64 &&& 4294967295) 7).toInt % 2 ^ 7 := Jvm.Kit.i64_mask _ _ (k := 7) (by decide) (by decide)
  have e := m127 w
  apply Int32.toInt_inj.mp
  rw [Jvm.Kit.i32_of_i64 (by omega) (by omega), m, q, v, e]; omega
theorem grp14 (x w : Int32) (h : w.toInt % 128 = x.toInt % 2 ^ 32 / 2 ^ 14 % 128) : (XT.ushrL (x.toInt64 &&& 4294967295) 14 &&& 127).toInt32 = w &&& 127 := by
  have v := vval x
  have q : (XT.ushrL (x.toInt64 &&& 4294967295) 14).toInt = (x.toInt64 &&& 4294967295).toInt / 2 ^ 14 := Jvm.Kit.i64_lushr (Jvm.Kit.i64_nonneg.mpr (by omega)) (k := 14) (by decide) (by decide)
  have m : (XT.ushrL (x.toInt64 &&& 4294967295) 14 &&& 127).toInt = (XT.ushrL (x.toInt64 &&& 4294967295) 14).toInt % 2 ^ 7 := Jvm.Kit.i64_mask _ _ (k := 7) (by decide) (by decide)
  have e := m127 w
  apply Int32.toInt_inj.mp
  rw [Jvm.Kit.i32_of_i64 (by omega) (by omega), m, q, v, e]; omega
theorem grp21 (x w : Int32) (h : w.toInt % 128 = x.toInt % 2 ^ 32 / 2 ^ 21 % 128) : (XT.ushrL (x.toInt64 &&& 4294967295) 21 &&& 127).toInt32 = w &&& 127 := by
  have v := vval x
  have q : (XT.ushrL (x.toInt64 &&& 4294967295) 21).toInt = (x.toInt64 &&& 4294967295).toInt / 2 ^ 21 := Jvm.Kit.i64_lushr (Jvm.Kit.i64_nonneg.mpr (by omega)) (k := 21) (by decide) (by decide)
  have m : (XT.ushrL (x.toInt64 &&& 4294967295) 21 &&& 127).toInt = (XT.ushrL (x.toInt64 &&& 4294967295) 21).toInt % 2 ^ 7 := Jvm.Kit.i64_mask _ _ (k := 7) (by decide) (by decide)
  have e := m127 w
  apply Int32.toInt_inj.mp
  rw [Jvm.Kit.i32_of_i64 (by omega) (by omega), m, q, v, e]; omega
theorem grp28 (x w : Int32) (h : w.toInt % 128 = x.toInt % 2 ^ 32 / 2 ^ 28 % 128) : (XT.ushrL (x.toInt64 &&& 4294967295) 28 &&& 127).toInt32 = w &&& 127 := by
  have v := vval x
  have q : (XT.ushrL (x.toInt64 &&& 4294967295) 28).toInt = (x.toInt64 &&& 4294967295).toInt / 2 ^ 28 := Jvm.Kit.i64_lushr (Jvm.Kit.i64_nonneg.mpr (by omega)) (k := 28) (by decide) (by decide)
  have m : (XT.ushrL (x.toInt64 &&& 4294967295) 28 &&& 127).toInt = (XT.ushrL (x.toInt64 &&& 4294967295) 28).toInt % 2 ^ 7 := Jvm.Kit.i64_mask _ _ (k := 7) (by decide) (by decide)
  have e := m127 w
  apply Int32.toInt_inj.mp
  rw [Jvm.Kit.i32_of_i64 (by omega) (by omega), m, q, v, e]; omega
end Own
theorem facts_1 (i0 : Int32) (g0 : 0 ≤ i0.toInt % 2 ^ 32) (g1 : i0.toInt % 2 ^ 32 < 128) :
    i0 &&& -128 = 0 ∧ (i0.toInt64 &&& 4294967295) < 128 ∧ nar .byte i0 &&& 255 = (XT.ushrL (i0.toInt64 &&& 4294967295) 0 &&& 127).toInt32 := by
  have v := vval i0; have r1 := i0.toInt_lt; have r2 := i0.le_toInt
  have u1 := ushr7 i0
  have u2 := ushr7 (XT.ushr i0 7)
  have u3 := ushr7 (XT.ushr (XT.ushr i0 7) 7)
  have u4 := ushr7 (XT.ushr (XT.ushr (XT.ushr i0 7) 7) 7)
  have z1 : (128 : Int64).toInt = 128 := rfl
  have z2 : (16384 : Int64).toInt = 16384 := rfl
  have z3 : (2097152 : Int64).toInt = 2097152 := rfl
  have z4 : (268435456 : Int64).toInt = 268435456 := rfl
  refine ⟨?_, ?_, ?_⟩
  · rw [low]; omega
  · rw [Int64.lt_iff_toInt_lt]; omega
  · rw [last _ (by omega) (by omega), grp0 i0 i0 (by omega)]
theorem facts_2 (i0 : Int32) (g0 : 128 ≤ i0.toInt % 2 ^ 32) (g1 : i0.toInt % 2 ^ 32 < 16384) :
    ¬ i0 &&& -128 = 0 ∧ (XT.ushr i0 7) &&& -128 = 0 ∧ ¬ (i0.toInt64 &&& 4294967295) < 128 ∧ (i0.toInt64 &&& 4294967295) < 16384 ∧ nar .byte ((i0 &&& 127) ||| 128) &&& 255 = (XT.ushrL (i0.toInt64 &&& 4294967295) 0 &&& 127).toInt32 ||| 128 ∧ nar .byte (XT.ushr i0 7) &&& 255 = (XT.ushrL (i0.toInt64 &&& 4294967295) 7 &&& 127).toInt32 := by
  have v := vval i0; have r1 := i0.toInt_lt; have r2 := i0.le_toInt
  have u1 := ushr7 i0
  have u2 := ushr7 (XT.ushr i0 7)
  have u3 := ushr7 (XT.ushr (XT.ushr i0 7) 7)
  have u4 := ushr7 (XT.ushr (XT.ushr (XT.ushr i0 7) 7) 7)
  have z1 : (128 : Int64).toInt = 128 := rfl
  have z2 : (16384 : Int64).toInt = 16384 := rfl
  have z3 : (2097152 : Int64).toInt = 2097152 := rfl
  have z4 : (268435456 : Int64).toInt = 268435456 := rfl
  refine ⟨?_, ?_, ?_, ?_, ?_, ?_⟩
  · rw [low]; omega
  · rw [low]; omega
  · rw [Int64.lt_iff_toInt_lt]; omega
  · rw [Int64.lt_iff_toInt_lt]; omega
  · have q := m127 i0; rw [top, grp0 i0 i0 (by omega), or128 _ (by omega) (by omega)]
  · rw [last _ (by omega) (by omega), grp7 i0 (XT.ushr i0 7) (by omega)]
theorem facts_3 (i0 : Int32) (g0 : 16384 ≤ i0.toInt % 2 ^ 32) (g1 : i0.toInt % 2 ^ 32 < 2097152) :
    ¬ i0 &&& -128 = 0 ∧ ¬ (XT.ushr i0 7) &&& -128 = 0 ∧ (XT.ushr (XT.ushr i0 7) 7) &&& -128 = 0 ∧ ¬ (i0.toInt64 &&& 4294967295) < 128 ∧ ¬ (i0.toInt64 &&& 4294967295) < 16384 ∧ (i0.toInt64 &&& 4294967295) < 2097152 ∧ nar .byte ((i0 &&& 127) ||| 128) &&& 255 = (XT.ushrL (i0.toInt64 &&& 4294967295) 0 &&& 127).toInt32 ||| 128 ∧ nar .byte (((XT.ushr i0 7) &&& 127) ||| 128) &&& 255 = (XT.ushrL (i0.toInt64 &&& 4294967295) 7 &&& 127).toInt32 ||| 128 ∧ nar .byte (XT.ushr (XT.ushr i0 7) 7) &&& 255 = (XT.ushrL (i0.toInt64 &&& 4294967295) 14 &&& 127).toInt32 := by
  have v := vval i0; have r1 := i0.toInt_lt; have r2 := i0.le_toInt
  have u1 := ushr7 i0
  have u2 := ushr7 (XT.ushr i0 7)
  have u3 := ushr7 (XT.ushr (XT.ushr i0 7) 7)
  have u4 := ushr7 (XT.ushr (XT.ushr (XT.ushr i0 7) 7) 7)
  have z1 : (128 : Int64).toInt = 128 := rfl
  have z2 : (16384 : Int64).toInt = 16384 := rfl
  have z3 : (2097152 : Int64).toInt = 2097152 := rfl
  have z4 : (268435456 : Int64).toInt = 268435456 := rfl
  refine ⟨?_, ?_, ?_, ?_, ?_, ?_, ?_, ?_, ?_⟩
  · rw [low]; omega
  · rw [low]; omega
  · rw [low]; omega
  · rw [Int64.lt_iff_toInt_lt]; omega
  · rw [Int64.lt_iff_toInt_lt]; omega
  · rw [Int64.lt_iff_toInt_lt]; omega
  · have q := m127 i0; rw [top, grp0 i0 i0 (by omega), or128 _ (by omega) (by omega)]
  · have q := m127 (XT.ushr i0 7); rw [top, grp7 i0 (XT.ushr i0 7) (by omega), or128 _ (by omega) (by omega)]
  · rw [last _ (by omega) (by omega), grp14 i0 (XT.ushr (XT.ushr i0 7) 7) (by omega)]
theorem facts_4 (i0 : Int32) (g0 : 2097152 ≤ i0.toInt % 2 ^ 32) (g1 : i0.toInt % 2 ^ 32 < 268435456) :
    ¬ i0 &&& -128 = 0 ∧ ¬ (XT.ushr i0 7) &&& -128 = 0 ∧ ¬ (XT.ushr (XT.ushr i0 7) 7) &&& -128 = 0 ∧ (XT.ushr (XT.ushr (XT.ushr i0 7) 7) 7) &&& -128 = 0 ∧ ¬ (i0.toInt64 &&& 4294967295) < 128 ∧ ¬ (i0.toInt64 &&& 4294967295) < 16384 ∧ ¬ (i0.toInt64 &&& 4294967295) < 2097152 ∧ (i0.toInt64 &&& 4294967295) < 268435456 ∧ nar .byte ((i0 &&& 127) ||| 128) &&& 255 = (XT.ushrL (i0.toInt64 &&& 4294967295) 0 &&& 127).toInt32 ||| 128 ∧ nar .byte (((XT.ushr i0 7) &&& 127) ||| 128) &&& 255 = (XT.ushrL (i0.toInt64 &&& 4294967295) 7 &&& 127).toInt32 ||| 128 ∧ nar .byte (((XT.ushr (XT.ushr i0 7) 7) &&& 127) ||| 128) &&& 255 = (XT.ushrL (i0.toInt64 &&& 4294967295) 14 &&& 127).toInt32 ||| 128 ∧ nar .byte (XT.ushr (XT.ushr (XT.ushr i0 7) 7) 7) &&& 255 = (XT.ushrL (i0.toInt64 &&& 4294967295) 21 &&& 127).toInt32 := by
  have v := vval i0; have r1 := i0.toInt_lt; have r2 := i0.le_toInt
  have u1 := ushr7 i0
  have u2 := ushr7 (XT.ushr i0 7)
  have u3 := ushr7 (XT.ushr (XT.ushr i0 7) 7)
  have u4 := ushr7 (XT.ushr (XT.ushr (XT.ushr i0 7) 7) 7)
  have z1 : (128 : Int64).toInt = 128 := rfl
  have z2 : (16384 : Int64).toInt = 16384 := rfl
  have z3 : (2097152 : Int64).toInt = 2097152 := rfl
  have z4 : (268435456 : Int64).toInt = 268435456 := rfl
  refine ⟨?_, ?_, ?_, ?_, ?_, ?_, ?_, ?_, ?_, ?_, ?_, ?_⟩
  · rw [low]; omega
  · rw [low]; omega
  · rw [low]; omega
  · rw [low]; omega
  · rw [Int64.lt_iff_toInt_lt]; omega
  · rw [Int64.lt_iff_toInt_lt]; omega
  · rw [Int64.lt_iff_toInt_lt]; omega
  · rw [Int64.lt_iff_toInt_lt]; omega
  · have q := m127 i0; rw [top, grp0 i0 i0 (by omega), or128 _ (by omega) (by omega)]
  · have q := m127 (XT.ushr i0 7); rw [top, grp7 i0 (XT.ushr i0 7) (by omega), or128 _ (by omega) (by omega)]
  · have q := m127 (XT.ushr (XT.ushr i0 7) 7); rw [top, grp14 i0 (XT.ushr (XT.ushr i0 7) 7) (by omega), or128 _ (by omega) (by omega)]
  · rw [last _ (by omega) (by omega), grp21 i0 (XT.ushr (XT.ushr (XT.ushr i0 7) 7) 7) (by omega)]
theorem facts_5 (i0 : Int32) (g0 : 268435456 ≤ i0.toInt % 2 ^ 32) (g1 : i0.toInt % 2 ^ 32 < 4294967296) :
    ¬ i0 &&& -128 = 0 ∧ ¬ (XT.ushr i0 7) &&& -128 = 0 ∧ ¬ (XT.ushr (XT.ushr i0 7) 7) &&& -128 = 0 ∧ ¬ (XT.ushr (XT.ushr (XT.ushr i0 7) 7) 7) &&& -128 = 0 ∧ (XT.ushr (XT.ushr (XT.ushr (XT.ushr i0 7) 7) 7) 7) &&& -128 = 0 ∧ ¬ (i0.toInt64 &&& 4294967295) < 128 ∧ ¬ (i0.toInt64 &&& 4294967295) < 16384 ∧ ¬ (i0.toInt64 &&& 4294967295) < 2097152 ∧ ¬ (i0.toInt64 &&& 4294967295) < 268435456 ∧ nar .byte ((i0 &&& 127) ||| 128) &&& 255 = (XT.ushrL (i0.toInt64 &&& 4294967295) 0 &&& 127).toInt32 ||| 128 ∧ nar .byte (((XT.ushr i0 7) &&& 127) ||| 128) &&& 255 = (XT.ushrL (i0.toInt64 &&& 4294967295) 7 &&& 127).toInt32 ||| 128 ∧ nar .byte (((XT.ushr (XT.ushr i0 7) 7) &&& 127) ||| 128) &&& 255 = (XT.ushrL (i0.toInt64 &&& 4294967295) 14 &&& 127).toInt32 ||| 128 ∧ nar .byte (((XT.ushr (XT.ushr (XT.ushr i0 7) 7) 7) &&& 127) ||| 128) &&& 255 = (XT.ushrL (i0.toInt64 &&& 4294967295) 21 &&& 127).toInt32 ||| 128 ∧ nar .byte (XT.ushr (XT.ushr (XT.ushr (XT.ushr i0 7) 7) 7) 7) &&& 255 = (XT.ushrL (i0.toInt64 &&& 4294967295) 28 &&& 127).toInt32 := by
  have v := vval i0; have r1 := i0.toInt_lt; have r2 := i0.le_toInt
  have u1 := ushr7 i0
  have u2 := ushr7 (XT.ushr i0 7)
  have u3 := ushr7 (XT.ushr (XT.ushr i0 7) 7)
  have u4 := ushr7 (XT.ushr (XT.ushr (XT.ushr i0 7) 7) 7)
  have z1 : (128 : Int64).toInt = 128 := rfl
  have z2 : (16384 : Int64).toInt = 16384 := rfl
  have z3 : (2097152 : Int64).toInt = 2097152 := rfl
  have z4 : (268435456 : Int64).toInt = 268435456 := rfl
  refine ⟨?_, ?_, ?_, ?_, ?_, ?_, ?_, ?_, ?_, ?_, ?_, ?_, ?_, ?_⟩
  · rw [low]; omega
  · rw [low]; omega
  · rw [low]; omega
  · rw [low]; omega
  · rw [low]; omega
  · rw [Int64.lt_iff_toInt_lt]; omega
  · rw [Int64.lt_iff_toInt_lt]; omega
  · rw [Int64.lt_iff_toInt_lt]; omega
  · rw [Int64.lt_iff_toInt_lt]; omega
  · have q := m127 i0; rw [top, grp0 i0 i0 (by omega), or128 _ (by omega) (by omega)]
  · have q := m127 (XT.ushr i0 7); rw [top, grp7 i0 (XT.ushr i0 7) (by omega), or128 _ (by omega) (by omega)]
  · have q := m127 (XT.ushr (XT.ushr i0 7) 7); rw [top, grp14 i0 (XT.ushr (XT.ushr i0 7) 7) (by omega), or128 _ (by omega) (by omega)]
  · have q := m127 (XT.ushr (XT.ushr (XT.ushr i0 7) 7) 7); rw [top, grp21 i0 (XT.ushr (XT.ushr (XT.ushr i0 7) 7) 7) (by omega), or128 _ (by omega) (by omega)]
  · rw [last _ (by omega) (by omega), grp28 i0 (XT.ushr (XT.ushr (XT.ushr (XT.ushr i0 7) 7) 7) 7) (by omega)]
theorem law (l : Launch) (Z : State) (b : Heap) (i0 i1 i2 : Int32) : G0 l Z b (fun v _ => v = some (.int 1)) 0 [.val (.int i0), .val (.int i1), .val (.int i2), .unset, .unset, .unset, .unset, .unset, .unset, .unset, .unset] [] [] 0 0 := by
  have e1 : (i1 &&& 3).toInt = i1.toInt % 2 ^ 2 := Jvm.Kit.i32_mask _ _ (k := 2) (by decide) (by decide)
  have hu : (i0.toInt % 2 ^ 32 < 128) ∨ (128 ≤ i0.toInt % 2 ^ 32 ∧ i0.toInt % 2 ^ 32 < 16384) ∨ (16384 ≤ i0.toInt % 2 ^ 32 ∧ i0.toInt % 2 ^ 32 < 2097152) ∨ (2097152 ≤ i0.toInt % 2 ^ 32 ∧ i0.toInt % 2 ^ 32 < 268435456) ∨ (268435456 ≤ i0.toInt % 2 ^ 32) := by omega
  rcases cases4 (v := i1 &&& 3) (by omega) (by omega) with hv | hv | hv | hv <;> rcases hu with hu | hu | hu | hu | hu
  · obtain ⟨h0, c1, t0⟩ := facts_1 i0 (by omega) (by omega)
    refine r0 300 ?_
    simp only [↓S0, ↓B0, ↓idx_c, ↓setN_c, ↓idxN_c, ↓reduceIte, B1, List.length_cons, List.length_nil, List.mem_cons, List.not_mem_nil, or_false, true_or, or_true, true_and, and_true, and_self, not_true_eq_false, not_false_eq_true, eq_self, ne_eq, Nat.zero_le, Nat.le_refl, Nat.reduceAdd, Nat.reduceSub, Nat.reduceEqDiff, Nat.reduceLeDiff, Int32.reduceLT, Int32.reduceLE, Int32.reduceAdd, Int32.reduceSub, Int32.reduceMul, Int32.reduceToNatClampNeg, Int32.reduceOfNat, Int32.reduceOfInt, Int64.reduceLT, Int64.reduceAdd, Int64.reduceSub, Int64.reduceMul, String.reduceEq, reduceCtorEq, room_c, room_s, hv]
    refine kf0_72 (con1_0_1 (nar .byte i2) i0 h0) (r0 300 ?_)
    simp only [↓S0, ↓B0, ↓idx_c, ↓setN_c, ↓idxN_c, ↓reduceIte, B1, List.length_cons, List.length_nil, List.mem_cons, List.not_mem_nil, or_false, true_or, or_true, true_and, and_true, and_self, not_true_eq_false, not_false_eq_true, eq_self, ne_eq, Nat.zero_le, Nat.le_refl, Nat.reduceAdd, Nat.reduceSub, Nat.reduceEqDiff, Nat.reduceLeDiff, Int32.reduceLT, Int32.reduceLE, Int32.reduceAdd, Int32.reduceSub, Int32.reduceMul, Int32.reduceToNatClampNeg, Int32.reduceOfNat, Int32.reduceOfInt, Int64.reduceLT, Int64.reduceAdd, Int64.reduceSub, Int64.reduceMul, String.reduceEq, reduceCtorEq, room_c, room_s, c1]
    refine kf0_179 (con2 _ 0 _ _ _ _ _ rfl (by decide)) ?_
    simp only [↓B0, ↓idx_c, ↓setN_c, ↓idxN_c, ↓reduceIte, B1, List.length_cons, List.length_nil, List.mem_cons, List.not_mem_nil, or_false, true_or, or_true, true_and, and_true, and_self, not_true_eq_false, not_false_eq_true, eq_self, ne_eq, Nat.zero_le, Nat.le_refl, Nat.reduceAdd, Nat.reduceSub, Nat.reduceEqDiff, Nat.reduceLeDiff, Int32.reduceLT, Int32.reduceLE, Int32.reduceAdd, Int32.reduceSub, Int32.reduceMul, Int32.reduceToNatClampNeg, Int32.reduceOfNat, Int32.reduceOfInt, Int64.reduceLT, Int64.reduceAdd, Int64.reduceSub, Int64.reduceMul, String.reduceEq, reduceCtorEq, room_c, room_s, sm, t0]
    refine r0 300 ?_
    simp only [↓S0, ↓B0, ↓idx_c, ↓setN_c, ↓idxN_c, ↓reduceIte, B1, List.length_cons, List.length_nil, List.mem_cons, List.not_mem_nil, or_false, true_or, or_true, true_and, and_true, and_self, not_true_eq_false, not_false_eq_true, eq_self, ne_eq, Nat.zero_le, Nat.le_refl, Nat.reduceAdd, Nat.reduceSub, Nat.reduceEqDiff, Nat.reduceLeDiff, Int32.reduceLT, Int32.reduceLE, Int32.reduceAdd, Int32.reduceSub, Int32.reduceMul, Int32.reduceToNatClampNeg, Int32.reduceOfNat, Int32.reduceOfInt, Int64.reduceLT, Int64.reduceAdd, Int64.reduceSub, Int64.reduceMul, String.reduceEq, reduceCtorEq, room_c, room_s]
    refine kf0_207 (con2 _ 1 _ _ _ _ _ rfl (by decide)) ?_
    simp only [↓B0, ↓idx_c, ↓setN_c, ↓idxN_c, ↓reduceIte, B1, List.length_cons, List.length_nil, List.mem_cons, List.not_mem_nil, or_false, true_or, or_true, true_and, and_true, and_self, not_true_eq_false, not_false_eq_true, eq_self, ne_eq, Nat.zero_le, Nat.le_refl, Nat.reduceAdd, Nat.reduceSub, Nat.reduceEqDiff, Nat.reduceLeDiff, Int32.reduceLT, Int32.reduceLE, Int32.reduceAdd, Int32.reduceSub, Int32.reduceMul, Int32.reduceToNatClampNeg, Int32.reduceOfNat, Int32.reduceOfInt, Int64.reduceLT, Int64.reduceAdd, Int64.reduceSub, Int64.reduceMul, String.reduceEq, reduceCtorEq, room_c, room_s, sm]
    refine r0 300 ?_
    simp only [↓S0, ↓B0, ↓idx_c, ↓setN_c, ↓idxN_c, ↓reduceIte, B1, List.length_cons, List.length_nil, List.mem_cons, List.not_mem_nil, or_false, true_or, or_true, true_and, and_true, and_self, not_true_eq_false, not_false_eq_true, eq_self, ne_eq, Nat.zero_le, Nat.le_refl, Nat.reduceAdd, Nat.reduceSub, Nat.reduceEqDiff, Nat.reduceLeDiff, Int32.reduceLT, Int32.reduceLE, Int32.reduceAdd, Int32.reduceSub, Int32.reduceMul, Int32.reduceToNatClampNeg, Int32.reduceOfNat, Int32.reduceOfInt, Int64.reduceLT, Int64.reduceAdd, Int64.reduceSub, Int64.reduceMul, String.reduceEq, reduceCtorEq, room_c, room_s]
    refine kf0_235 (con2 _ 2 _ _ _ _ _ rfl (by decide)) ?_
    simp only [↓B0, ↓idx_c, ↓setN_c, ↓idxN_c, ↓reduceIte, B1, List.length_cons, List.length_nil, List.mem_cons, List.not_mem_nil, or_false, true_or, or_true, true_and, and_true, and_self, not_true_eq_false, not_false_eq_true, eq_self, ne_eq, Nat.zero_le, Nat.le_refl, Nat.reduceAdd, Nat.reduceSub, Nat.reduceEqDiff, Nat.reduceLeDiff, Int32.reduceLT, Int32.reduceLE, Int32.reduceAdd, Int32.reduceSub, Int32.reduceMul, Int32.reduceToNatClampNeg, Int32.reduceOfNat, Int32.reduceOfInt, Int64.reduceLT, Int64.reduceAdd, Int64.reduceSub, Int64.reduceMul, String.reduceEq, reduceCtorEq, room_c, room_s, sm]
    refine r0 300 ?_
    simp only [↓S0, ↓B0, ↓idx_c, ↓setN_c, ↓idxN_c, ↓reduceIte, B1, List.length_cons, List.length_nil, List.mem_cons, List.not_mem_nil, or_false, true_or, or_true, true_and, and_true, and_self, not_true_eq_false, not_false_eq_true, eq_self, ne_eq, Nat.zero_le, Nat.le_refl, Nat.reduceAdd, Nat.reduceSub, Nat.reduceEqDiff, Nat.reduceLeDiff, Int32.reduceLT, Int32.reduceLE, Int32.reduceAdd, Int32.reduceSub, Int32.reduceMul, Int32.reduceToNatClampNeg, Int32.reduceOfNat, Int32.reduceOfInt, Int64.reduceLT, Int64.reduceAdd, Int64.reduceSub, Int64.reduceMul, String.reduceEq, reduceCtorEq, room_c, room_s]
    refine kf0_263 (con2 _ 3 _ _ _ _ _ rfl (by decide)) ?_
    simp only [↓B0, ↓idx_c, ↓setN_c, ↓idxN_c, ↓reduceIte, B1, List.length_cons, List.length_nil, List.mem_cons, List.not_mem_nil, or_false, true_or, or_true, true_and, and_true, and_self, not_true_eq_false, not_false_eq_true, eq_self, ne_eq, Nat.zero_le, Nat.le_refl, Nat.reduceAdd, Nat.reduceSub, Nat.reduceEqDiff, Nat.reduceLeDiff, Int32.reduceLT, Int32.reduceLE, Int32.reduceAdd, Int32.reduceSub, Int32.reduceMul, Int32.reduceToNatClampNeg, Int32.reduceOfNat, Int32.reduceOfInt, Int64.reduceLT, Int64.reduceAdd, Int64.reduceSub, Int64.reduceMul, String.reduceEq, reduceCtorEq, room_c, room_s, sm]
    refine r0 300 ?_
    simp only [↓S0, ↓B0, ↓idx_c, ↓setN_c, ↓idxN_c, ↓reduceIte, B1, List.length_cons, List.length_nil, List.mem_cons, List.not_mem_nil, or_false, true_or, or_true, true_and, and_true, and_self, not_true_eq_false, not_false_eq_true, eq_self, ne_eq, Nat.zero_le, Nat.le_refl, Nat.reduceAdd, Nat.reduceSub, Nat.reduceEqDiff, Nat.reduceLeDiff, Int32.reduceLT, Int32.reduceLE, Int32.reduceAdd, Int32.reduceSub, Int32.reduceMul, Int32.reduceToNatClampNeg, Int32.reduceOfNat, Int32.reduceOfInt, Int64.reduceLT, Int64.reduceAdd, Int64.reduceSub, Int64.reduceMul, String.reduceEq, reduceCtorEq, room_c, room_s]
    refine kf0_291 (con2 _ 4 _ _ _ _ _ rfl (by decide)) ?_
    simp only [↓B0, ↓idx_c, ↓setN_c, ↓idxN_c, ↓reduceIte, B1, List.length_cons, List.length_nil, List.mem_cons, List.not_mem_nil, or_false, true_or, or_true, true_and, and_true, and_self, not_true_eq_false, not_false_eq_true, eq_self, ne_eq, Nat.zero_le, Nat.le_refl, Nat.reduceAdd, Nat.reduceSub, Nat.reduceEqDiff, Nat.reduceLeDiff, Int32.reduceLT, Int32.reduceLE, Int32.reduceAdd, Int32.reduceSub, Int32.reduceMul, Int32.reduceToNatClampNeg, Int32.reduceOfNat, Int32.reduceOfInt, Int64.reduceLT, Int64.reduceAdd, Int64.reduceSub, Int64.reduceMul, String.reduceEq, reduceCtorEq, room_c, room_s, sm]
    refine r0 300 ?_
    simp only [↓S0, ↓B0, ↓idx_c, ↓setN_c, ↓idxN_c, ↓reduceIte, B1, List.length_cons, List.length_nil, List.mem_cons, List.not_mem_nil, or_false, true_or, or_true, true_and, and_true, and_self, not_true_eq_false, not_false_eq_true, eq_self, ne_eq, Nat.zero_le, Nat.le_refl, Nat.reduceAdd, Nat.reduceSub, Nat.reduceEqDiff, Nat.reduceLeDiff, Int32.reduceLT, Int32.reduceLE, Int32.reduceAdd, Int32.reduceSub, Int32.reduceMul, Int32.reduceToNatClampNeg, Int32.reduceOfNat, Int32.reduceOfInt, Int64.reduceLT, Int64.reduceAdd, Int64.reduceSub, Int64.reduceMul, String.reduceEq, reduceCtorEq, room_c, room_s]
    refine kf0_319 (con2 _ 5 _ _ _ _ _ rfl (by decide)) ?_
    simp only [↓B0, ↓idx_c, ↓setN_c, ↓idxN_c, ↓reduceIte, B1, List.length_cons, List.length_nil, List.mem_cons, List.not_mem_nil, or_false, true_or, or_true, true_and, and_true, and_self, not_true_eq_false, not_false_eq_true, eq_self, ne_eq, Nat.zero_le, Nat.le_refl, Nat.reduceAdd, Nat.reduceSub, Nat.reduceEqDiff, Nat.reduceLeDiff, Int32.reduceLT, Int32.reduceLE, Int32.reduceAdd, Int32.reduceSub, Int32.reduceMul, Int32.reduceToNatClampNeg, Int32.reduceOfNat, Int32.reduceOfInt, Int64.reduceLT, Int64.reduceAdd, Int64.reduceSub, Int64.reduceMul, String.reduceEq, reduceCtorEq, room_c, room_s, sm]
    refine r0 300 ?_
    simp only [↓S0, ↓B0, ↓idx_c, ↓setN_c, ↓idxN_c, ↓reduceIte, B1, List.length_cons, List.length_nil, List.mem_cons, List.not_mem_nil, or_false, true_or, or_true, true_and, and_true, and_self, not_true_eq_false, not_false_eq_true, eq_self, ne_eq, Nat.zero_le, Nat.le_refl, Nat.reduceAdd, Nat.reduceSub, Nat.reduceEqDiff, Nat.reduceLeDiff, Int32.reduceLT, Int32.reduceLE, Int32.reduceAdd, Int32.reduceSub, Int32.reduceMul, Int32.reduceToNatClampNeg, Int32.reduceOfNat, Int32.reduceOfInt, Int64.reduceLT, Int64.reduceAdd, Int64.reduceSub, Int64.reduceMul, String.reduceEq, reduceCtorEq, room_c, room_s]
    refine kf0_348 (con2 _ 6 _ _ _ _ _ rfl (by decide)) ?_
    simp only [↓B0, ↓idx_c, ↓setN_c, ↓idxN_c, ↓reduceIte, B1, List.length_cons, List.length_nil, List.mem_cons, List.not_mem_nil, or_false, true_or, or_true, true_and, and_true, and_self, not_true_eq_false, not_false_eq_true, eq_self, ne_eq, Nat.zero_le, Nat.le_refl, Nat.reduceAdd, Nat.reduceSub, Nat.reduceEqDiff, Nat.reduceLeDiff, Int32.reduceLT, Int32.reduceLE, Int32.reduceAdd, Int32.reduceSub, Int32.reduceMul, Int32.reduceToNatClampNeg, Int32.reduceOfNat, Int32.reduceOfInt, Int64.reduceLT, Int64.reduceAdd, Int64.reduceSub, Int64.reduceMul, String.reduceEq, reduceCtorEq, room_c, room_s, sm]
    refine r0 300 ?_
    simp only [↓S0, ↓B0, ↓idx_c, ↓setN_c, ↓idxN_c, ↓reduceIte, B1, List.length_cons, List.length_nil, List.mem_cons, List.not_mem_nil, or_false, true_or, or_true, true_and, and_true, and_self, not_true_eq_false, not_false_eq_true, eq_self, ne_eq, Nat.zero_le, Nat.le_refl, Nat.reduceAdd, Nat.reduceSub, Nat.reduceEqDiff, Nat.reduceLeDiff, Int32.reduceLT, Int32.reduceLE, Int32.reduceAdd, Int32.reduceSub, Int32.reduceMul, Int32.reduceToNatClampNeg, Int32.reduceOfNat, Int32.reduceOfInt, Int64.reduceLT, Int64.reduceAdd, Int64.reduceSub, Int64.reduceMul, String.reduceEq, reduceCtorEq, room_c, room_s]
    refine kf0_377 (con2 _ 7 _ _ _ _ _ rfl (by decide)) ?_
    simp only [↓B0, ↓idx_c, ↓setN_c, ↓idxN_c, ↓reduceIte, B1, List.length_cons, List.length_nil, List.mem_cons, List.not_mem_nil, or_false, true_or, or_true, true_and, and_true, and_self, not_true_eq_false, not_false_eq_true, eq_self, ne_eq, Nat.zero_le, Nat.le_refl, Nat.reduceAdd, Nat.reduceSub, Nat.reduceEqDiff, Nat.reduceLeDiff, Int32.reduceLT, Int32.reduceLE, Int32.reduceAdd, Int32.reduceSub, Int32.reduceMul, Int32.reduceToNatClampNeg, Int32.reduceOfNat, Int32.reduceOfInt, Int64.reduceLT, Int64.reduceAdd, Int64.reduceSub, Int64.reduceMul, String.reduceEq, reduceCtorEq, room_c, room_s, sm]
    refine r0 300 ?_
    simp only [↓S0, ↓B0, ↓idx_c, ↓setN_c, ↓idxN_c, ↓reduceIte, B1, List.length_cons, List.length_nil, List.mem_cons, List.not_mem_nil, or_false, true_or, or_true, true_and, and_true, and_self, not_true_eq_false, not_false_eq_true, eq_self, ne_eq, Nat.zero_le, Nat.le_refl, Nat.reduceAdd, Nat.reduceSub, Nat.reduceEqDiff, Nat.reduceLeDiff, Int32.reduceLT, Int32.reduceLE, Int32.reduceAdd, Int32.reduceSub, Int32.reduceMul, Int32.reduceToNatClampNeg, Int32.reduceOfNat, Int32.reduceOfInt, Int64.reduceLT, Int64.reduceAdd, Int64.reduceSub, Int64.reduceMul, String.reduceEq, reduceCtorEq, room_c, room_s]
    refine kf0_406 (con2 _ 8 _ _ _ _ _ rfl (by decide)) ?_
    simp only [↓B0, ↓idx_c, ↓setN_c, ↓idxN_c, ↓reduceIte, B1, List.length_cons, List.length_nil, List.mem_cons, List.not_mem_nil, or_false, true_or, or_true, true_and, and_true, and_self, not_true_eq_false, not_false_eq_true, eq_self, ne_eq, Nat.zero_le, Nat.le_refl, Nat.reduceAdd, Nat.reduceSub, Nat.reduceEqDiff, Nat.reduceLeDiff, Int32.reduceLT, Int32.reduceLE, Int32.reduceAdd, Int32.reduceSub, Int32.reduceMul, Int32.reduceToNatClampNeg, Int32.reduceOfNat, Int32.reduceOfInt, Int64.reduceLT, Int64.reduceAdd, Int64.reduceSub, Int64.reduceMul, String.reduceEq, reduceCtorEq, room_c, room_s, sm]
    refine r0 300 ?_
    simp only [↓S0, ↓B0, ↓idx_c, ↓setN_c, ↓idxN_c, ↓reduceIte, B1, List.length_cons, List.length_nil, List.mem_cons, List.not_mem_nil, or_false, true_or, or_true, true_and, and_true, and_self, not_true_eq_false, not_false_eq_true, eq_self, ne_eq, Nat.zero_le, Nat.le_refl, Nat.reduceAdd, Nat.reduceSub, Nat.reduceEqDiff, Nat.reduceLeDiff, Int32.reduceLT, Int32.reduceLE, Int32.reduceAdd, Int32.reduceSub, Int32.reduceMul, Int32.reduceToNatClampNeg, Int32.reduceOfNat, Int32.reduceOfInt, Int64.reduceLT, Int64.reduceAdd, Int64.reduceSub, Int64.reduceMul, String.reduceEq, reduceCtorEq, room_c, room_s]
    refine kf0_435 (con2 _ 9 _ _ _ _ _ rfl (by decide)) ?_
    simp only [↓B0, ↓idx_c, ↓setN_c, ↓idxN_c, ↓reduceIte, B1, List.length_cons, List.length_nil, List.mem_cons, List.not_mem_nil, or_false, true_or, or_true, true_and, and_true, and_self, not_true_eq_false, not_false_eq_true, eq_self, ne_eq, Nat.zero_le, Nat.le_refl, Nat.reduceAdd, Nat.reduceSub, Nat.reduceEqDiff, Nat.reduceLeDiff, Int32.reduceLT, Int32.reduceLE, Int32.reduceAdd, Int32.reduceSub, Int32.reduceMul, Int32.reduceToNatClampNeg, Int32.reduceOfNat, Int32.reduceOfInt, Int64.reduceLT, Int64.reduceAdd, Int64.reduceSub, Int64.reduceMul, String.reduceEq, reduceCtorEq, room_c, room_s, sm]
    refine r0 300 ?_
    simp only [↓S0, ↓B0, ↓idx_c, ↓setN_c, ↓idxN_c, ↓reduceIte, B1, List.length_cons, List.length_nil, List.mem_cons, List.not_mem_nil, or_false, true_or, or_true, true_and, and_true, and_self, not_true_eq_false, not_false_eq_true, eq_self, ne_eq, Nat.zero_le, Nat.le_refl, Nat.reduceAdd, Nat.reduceSub, Nat.reduceEqDiff, Nat.reduceLeDiff, Int32.reduceLT, Int32.reduceLE, Int32.reduceAdd, Int32.reduceSub, Int32.reduceMul, Int32.reduceToNatClampNeg, Int32.reduceOfNat, Int32.reduceOfInt, Int64.reduceLT, Int64.reduceAdd, Int64.reduceSub, Int64.reduceMul, String.reduceEq, reduceCtorEq, room_c, room_s]
  · obtain ⟨h0, h1, c1, c2, t0, t1⟩ := facts_2 i0 (by omega) (by omega)
    refine r0 300 ?_
    simp only [↓S0, ↓B0, ↓idx_c, ↓setN_c, ↓idxN_c, ↓reduceIte, B1, List.length_cons, List.length_nil, List.mem_cons, List.not_mem_nil, or_false, true_or, or_true, true_and, and_true, and_self, not_true_eq_false, not_false_eq_true, eq_self, ne_eq, Nat.zero_le, Nat.le_refl, Nat.reduceAdd, Nat.reduceSub, Nat.reduceEqDiff, Nat.reduceLeDiff, Int32.reduceLT, Int32.reduceLE, Int32.reduceAdd, Int32.reduceSub, Int32.reduceMul, Int32.reduceToNatClampNeg, Int32.reduceOfNat, Int32.reduceOfInt, Int64.reduceLT, Int64.reduceAdd, Int64.reduceSub, Int64.reduceMul, String.reduceEq, reduceCtorEq, room_c, room_s, hv]
    refine kf0_72 (con1_0_2 (nar .byte i2) i0 h0 h1) (r0 300 ?_)
    simp only [↓S0, ↓B0, ↓idx_c, ↓setN_c, ↓idxN_c, ↓reduceIte, B1, List.length_cons, List.length_nil, List.mem_cons, List.not_mem_nil, or_false, true_or, or_true, true_and, and_true, and_self, not_true_eq_false, not_false_eq_true, eq_self, ne_eq, Nat.zero_le, Nat.le_refl, Nat.reduceAdd, Nat.reduceSub, Nat.reduceEqDiff, Nat.reduceLeDiff, Int32.reduceLT, Int32.reduceLE, Int32.reduceAdd, Int32.reduceSub, Int32.reduceMul, Int32.reduceToNatClampNeg, Int32.reduceOfNat, Int32.reduceOfInt, Int64.reduceLT, Int64.reduceAdd, Int64.reduceSub, Int64.reduceMul, String.reduceEq, reduceCtorEq, room_c, room_s, c1, c2]
    refine kf0_179 (con2 _ 0 _ _ _ _ _ rfl (by decide)) ?_
    simp only [↓B0, ↓idx_c, ↓setN_c, ↓idxN_c, ↓reduceIte, B1, List.length_cons, List.length_nil, List.mem_cons, List.not_mem_nil, or_false, true_or, or_true, true_and, and_true, and_self, not_true_eq_false, not_false_eq_true, eq_self, ne_eq, Nat.zero_le, Nat.le_refl, Nat.reduceAdd, Nat.reduceSub, Nat.reduceEqDiff, Nat.reduceLeDiff, Int32.reduceLT, Int32.reduceLE, Int32.reduceAdd, Int32.reduceSub, Int32.reduceMul, Int32.reduceToNatClampNeg, Int32.reduceOfNat, Int32.reduceOfInt, Int64.reduceLT, Int64.reduceAdd, Int64.reduceSub, Int64.reduceMul, String.reduceEq, reduceCtorEq, room_c, room_s, sm, t0]
    refine r0 300 ?_
    simp only [↓S0, ↓B0, ↓idx_c, ↓setN_c, ↓idxN_c, ↓reduceIte, B1, List.length_cons, List.length_nil, List.mem_cons, List.not_mem_nil, or_false, true_or, or_true, true_and, and_true, and_self, not_true_eq_false, not_false_eq_true, eq_self, ne_eq, Nat.zero_le, Nat.le_refl, Nat.reduceAdd, Nat.reduceSub, Nat.reduceEqDiff, Nat.reduceLeDiff, Int32.reduceLT, Int32.reduceLE, Int32.reduceAdd, Int32.reduceSub, Int32.reduceMul, Int32.reduceToNatClampNeg, Int32.reduceOfNat, Int32.reduceOfInt, Int64.reduceLT, Int64.reduceAdd, Int64.reduceSub, Int64.reduceMul, String.reduceEq, reduceCtorEq, room_c, room_s]
    refine kf0_207 (con2 _ 1 _ _ _ _ _ rfl (by decide)) ?_
    simp only [↓B0, ↓idx_c, ↓setN_c, ↓idxN_c, ↓reduceIte, B1, List.length_cons, List.length_nil, List.mem_cons, List.not_mem_nil, or_false, true_or, or_true, true_and, and_true, and_self, not_true_eq_false, not_false_eq_true, eq_self, ne_eq, Nat.zero_le, Nat.le_refl, Nat.reduceAdd, Nat.reduceSub, Nat.reduceEqDiff, Nat.reduceLeDiff, Int32.reduceLT, Int32.reduceLE, Int32.reduceAdd, Int32.reduceSub, Int32.reduceMul, Int32.reduceToNatClampNeg, Int32.reduceOfNat, Int32.reduceOfInt, Int64.reduceLT, Int64.reduceAdd, Int64.reduceSub, Int64.reduceMul, String.reduceEq, reduceCtorEq, room_c, room_s, sm, t1]
    refine r0 300 ?_
    simp only [↓S0, ↓B0, ↓idx_c, ↓setN_c, ↓idxN_c, ↓reduceIte, B1, List.length_cons, List.length_nil, List.mem_cons, List.not_mem_nil, or_false, true_or, or_true, true_and, and_true, and_self, not_true_eq_false, not_false_eq_true, eq_self, ne_eq, Nat.zero_le, Nat.le_refl, Nat.reduceAdd, Nat.reduceSub, Nat.reduceEqDiff, Nat.reduceLeDiff, Int32.reduceLT, Int32.reduceLE, Int32.reduceAdd, Int32.reduceSub, Int32.reduceMul, Int32.reduceToNatClampNeg, Int32.reduceOfNat, Int32.reduceOfInt, Int64.reduceLT, Int64.reduceAdd, Int64.reduceSub, Int64.reduceMul, String.reduceEq, reduceCtorEq, room_c, room_s]
    refine kf0_235 (con2 _ 2 _ _ _ _ _ rfl (by decide)) ?_
    simp only [↓B0, ↓idx_c, ↓setN_c, ↓idxN_c, ↓reduceIte, B1, List.length_cons, List.length_nil, List.mem_cons, List.not_mem_nil, or_false, true_or, or_true, true_and, and_true, and_self, not_true_eq_false, not_false_eq_true, eq_self, ne_eq, Nat.zero_le, Nat.le_refl, Nat.reduceAdd, Nat.reduceSub, Nat.reduceEqDiff, Nat.reduceLeDiff, Int32.reduceLT, Int32.reduceLE, Int32.reduceAdd, Int32.reduceSub, Int32.reduceMul, Int32.reduceToNatClampNeg, Int32.reduceOfNat, Int32.reduceOfInt, Int64.reduceLT, Int64.reduceAdd, Int64.reduceSub, Int64.reduceMul, String.reduceEq, reduceCtorEq, room_c, room_s, sm]
    refine r0 300 ?_
    simp only [↓S0, ↓B0, ↓idx_c, ↓setN_c, ↓idxN_c, ↓reduceIte, B1, List.length_cons, List.length_nil, List.mem_cons, List.not_mem_nil, or_false, true_or, or_true, true_and, and_true, and_self, not_true_eq_false, not_false_eq_true, eq_self, ne_eq, Nat.zero_le, Nat.le_refl, Nat.reduceAdd, Nat.reduceSub, Nat.reduceEqDiff, Nat.reduceLeDiff, Int32.reduceLT, Int32.reduceLE, Int32.reduceAdd, Int32.reduceSub, Int32.reduceMul, Int32.reduceToNatClampNeg, Int32.reduceOfNat, Int32.reduceOfInt, Int64.reduceLT, Int64.reduceAdd, Int64.reduceSub, Int64.reduceMul, String.reduceEq, reduceCtorEq, room_c, room_s]
    refine kf0_263 (con2 _ 3 _ _ _ _ _ rfl (by decide)) ?_
    simp only [↓B0, ↓idx_c, ↓setN_c, ↓idxN_c, ↓reduceIte, B1, List.length_cons, List.length_nil, List.mem_cons, List.not_mem_nil, or_false, true_or, or_true, true_and, and_true, and_self, not_true_eq_false, not_false_eq_true, eq_self, ne_eq, Nat.zero_le, Nat.le_refl, Nat.reduceAdd, Nat.reduceSub, Nat.reduceEqDiff, Nat.reduceLeDiff, Int32.reduceLT, Int32.reduceLE, Int32.reduceAdd, Int32.reduceSub, Int32.reduceMul, Int32.reduceToNatClampNeg, Int32.reduceOfNat, Int32.reduceOfInt, Int64.reduceLT, Int64.reduceAdd, Int64.reduceSub, Int64.reduceMul, String.reduceEq, reduceCtorEq, room_c, room_s, sm]
    refine r0 300 ?_
    simp only [↓S0, ↓B0, ↓idx_c, ↓setN_c, ↓idxN_c, ↓reduceIte, B1, List.length_cons, List.length_nil, List.mem_cons, List.not_mem_nil, or_false, true_or, or_true, true_and, and_true, and_self, not_true_eq_false, not_false_eq_true, eq_self, ne_eq, Nat.zero_le, Nat.le_refl, Nat.reduceAdd, Nat.reduceSub, Nat.reduceEqDiff, Nat.reduceLeDiff, Int32.reduceLT, Int32.reduceLE, Int32.reduceAdd, Int32.reduceSub, Int32.reduceMul, Int32.reduceToNatClampNeg, Int32.reduceOfNat, Int32.reduceOfInt, Int64.reduceLT, Int64.reduceAdd, Int64.reduceSub, Int64.reduceMul, String.reduceEq, reduceCtorEq, room_c, room_s]
    refine kf0_291 (con2 _ 4 _ _ _ _ _ rfl (by decide)) ?_
    simp only [↓B0, ↓idx_c, ↓setN_c, ↓idxN_c, ↓reduceIte, B1, List.length_cons, List.length_nil, List.mem_cons, List.not_mem_nil, or_false, true_or, or_true, true_and, and_true, and_self, not_true_eq_false, not_false_eq_true, eq_self, ne_eq, Nat.zero_le, Nat.le_refl, Nat.reduceAdd, Nat.reduceSub, Nat.reduceEqDiff, Nat.reduceLeDiff, Int32.reduceLT, Int32.reduceLE, Int32.reduceAdd, Int32.reduceSub, Int32.reduceMul, Int32.reduceToNatClampNeg, Int32.reduceOfNat, Int32.reduceOfInt, Int64.reduceLT, Int64.reduceAdd, Int64.reduceSub, Int64.reduceMul, String.reduceEq, reduceCtorEq, room_c, room_s, sm]
    refine r0 300 ?_
    simp only [↓S0, ↓B0, ↓idx_c, ↓setN_c, ↓idxN_c, ↓reduceIte, B1, List.length_cons, List.length_nil, List.mem_cons, List.not_mem_nil, or_false, true_or, or_true, true_and, and_true, and_self, not_true_eq_false, not_false_eq_true, eq_self, ne_eq, Nat.zero_le, Nat.le_refl, Nat.reduceAdd, Nat.reduceSub, Nat.reduceEqDiff, Nat.reduceLeDiff, Int32.reduceLT, Int32.reduceLE, Int32.reduceAdd, Int32.reduceSub, Int32.reduceMul, Int32.reduceToNatClampNeg, Int32.reduceOfNat, Int32.reduceOfInt, Int64.reduceLT, Int64.reduceAdd, Int64.reduceSub, Int64.reduceMul, String.reduceEq, reduceCtorEq, room_c, room_s]
    refine kf0_319 (con2 _ 5 _ _ _ _ _ rfl (by decide)) ?_
    simp only [↓B0, ↓idx_c, ↓setN_c, ↓idxN_c, ↓reduceIte, B1, List.length_cons, List.length_nil, List.mem_cons, List.not_mem_nil, or_false, true_or, or_true, true_and, and_true, and_self, not_true_eq_false, not_false_eq_true, eq_self, ne_eq, Nat.zero_le, Nat.le_refl, Nat.reduceAdd, Nat.reduceSub, Nat.reduceEqDiff, Nat.reduceLeDiff, Int32.reduceLT, Int32.reduceLE, Int32.reduceAdd, Int32.reduceSub, Int32.reduceMul, Int32.reduceToNatClampNeg, Int32.reduceOfNat, Int32.reduceOfInt, Int64.reduceLT, Int64.reduceAdd, Int64.reduceSub, Int64.reduceMul, String.reduceEq, reduceCtorEq, room_c, room_s, sm]
    refine r0 300 ?_
    simp only [↓S0, ↓B0, ↓idx_c, ↓setN_c, ↓idxN_c, ↓reduceIte, B1, List.length_cons, List.length_nil, List.mem_cons, List.not_mem_nil, or_false, true_or, or_true, true_and, and_true, and_self, not_true_eq_false, not_false_eq_true, eq_self, ne_eq, Nat.zero_le, Nat.le_refl, Nat.reduceAdd, Nat.reduceSub, Nat.reduceEqDiff, Nat.reduceLeDiff, Int32.reduceLT, Int32.reduceLE, Int32.reduceAdd, Int32.reduceSub, Int32.reduceMul, Int32.reduceToNatClampNeg, Int32.reduceOfNat, Int32.reduceOfInt, Int64.reduceLT, Int64.reduceAdd, Int64.reduceSub, Int64.reduceMul, String.reduceEq, reduceCtorEq, room_c, room_s]
    refine kf0_348 (con2 _ 6 _ _ _ _ _ rfl (by decide)) ?_
    simp only [↓B0, ↓idx_c, ↓setN_c, ↓idxN_c, ↓reduceIte, B1, List.length_cons, List.length_nil, List.mem_cons, List.not_mem_nil, or_false, true_or, or_true, true_and, and_true, and_self, not_true_eq_false, not_false_eq_true, eq_self, ne_eq, Nat.zero_le, Nat.le_refl, Nat.reduceAdd, Nat.reduceSub, Nat.reduceEqDiff, Nat.reduceLeDiff, Int32.reduceLT, Int32.reduceLE, Int32.reduceAdd, Int32.reduceSub, Int32.reduceMul, Int32.reduceToNatClampNeg, Int32.reduceOfNat, Int32.reduceOfInt, Int64.reduceLT, Int64.reduceAdd, Int64.reduceSub, Int64.reduceMul, String.reduceEq, reduceCtorEq, room_c, room_s, sm]
    refine r0 300 ?_
    simp only [↓S0, ↓B0, ↓idx_c, ↓setN_c, ↓idxN_c, ↓reduceIte, B1, List.length_cons, List.length_nil, List.mem_cons, List.not_mem_nil, or_false, true_or, or_true, true_and, and_true, and_self, not_true_eq_false, not_false_eq_true, eq_self, ne_eq, Nat.zero_le, Nat.le_refl, Nat.reduceAdd, Nat.reduceSub, Nat.reduceEqDiff, Nat.reduceLeDiff, Int32.reduceLT, Int32.reduceLE, Int32.reduceAdd, Int32.reduceSub, Int32.reduceMul, Int32.reduceToNatClampNeg, Int32.reduceOfNat, Int32.reduceOfInt, Int64.reduceLT, Int64.reduceAdd, Int64.reduceSub, Int64.reduceMul, String.reduceEq, reduceCtorEq, room_c, room_s]
    refine kf0_377 (con2 _ 7 _ _ _ _ _ rfl (by decide)) ?_
    simp only [↓B0, ↓idx_c, ↓setN_c, ↓idxN_c, ↓reduceIte, B1, List.length_cons, List.length_nil, List.mem_cons, List.not_mem_nil, or_false, true_or, or_true, true_and, and_true, and_self, not_true_eq_false, not_false_eq_true, eq_self, ne_eq, Nat.zero_le, Nat.le_refl, Nat.reduceAdd, Nat.reduceSub, Nat.reduceEqDiff, Nat.reduceLeDiff, Int32.reduceLT, Int32.reduceLE, Int32.reduceAdd, Int32.reduceSub, Int32.reduceMul, Int32.reduceToNatClampNeg, Int32.reduceOfNat, Int32.reduceOfInt, Int64.reduceLT, Int64.reduceAdd, Int64.reduceSub, Int64.reduceMul, String.reduceEq, reduceCtorEq, room_c, room_s, sm]
    refine r0 300 ?_
    simp only [↓S0, ↓B0, ↓idx_c, ↓setN_c, ↓idxN_c, ↓reduceIte, B1, List.length_cons, List.length_nil, List.mem_cons, List.not_mem_nil, or_false, true_or, or_true, true_and, and_true, and_self, not_true_eq_false, not_false_eq_true, eq_self, ne_eq, Nat.zero_le, Nat.le_refl, Nat.reduceAdd, Nat.reduceSub, Nat.reduceEqDiff, Nat.reduceLeDiff, Int32.reduceLT, Int32.reduceLE, Int32.reduceAdd, Int32.reduceSub, Int32.reduceMul, Int32.reduceToNatClampNeg, Int32.reduceOfNat, Int32.reduceOfInt, Int64.reduceLT, Int64.reduceAdd, Int64.reduceSub, Int64.reduceMul, String.reduceEq, reduceCtorEq, room_c, room_s]
    refine kf0_406 (con2 _ 8 _ _ _ _ _ rfl (by decide)) ?_
    simp only [↓B0, ↓idx_c, ↓setN_c, ↓idxN_c, ↓reduceIte, B1, List.length_cons, List.length_nil, List.mem_cons, List.not_mem_nil, or_false, true_or, or_true, true_and, and_true, and_self, not_true_eq_false, not_false_eq_true, eq_self, ne_eq, Nat.zero_le, Nat.le_refl, Nat.reduceAdd, Nat.reduceSub, Nat.reduceEqDiff, Nat.reduceLeDiff, Int32.reduceLT, Int32.reduceLE, Int32.reduceAdd, Int32.reduceSub, Int32.reduceMul, Int32.reduceToNatClampNeg, Int32.reduceOfNat, Int32.reduceOfInt, Int64.reduceLT, Int64.reduceAdd, Int64.reduceSub, Int64.reduceMul, String.reduceEq, reduceCtorEq, room_c, room_s, sm]
    refine r0 300 ?_
    simp only [↓S0, ↓B0, ↓idx_c, ↓setN_c, ↓idxN_c, ↓reduceIte, B1, List.length_cons, List.length_nil, List.mem_cons, List.not_mem_nil, or_false, true_or, or_true, true_and, and_true, and_self, not_true_eq_false, not_false_eq_true, eq_self, ne_eq, Nat.zero_le, Nat.le_refl, Nat.reduceAdd, Nat.reduceSub, Nat.reduceEqDiff, Nat.reduceLeDiff, Int32.reduceLT, Int32.reduceLE, Int32.reduceAdd, Int32.reduceSub, Int32.reduceMul, Int32.reduceToNatClampNeg, Int32.reduceOfNat, Int32.reduceOfInt, Int64.reduceLT, Int64.reduceAdd, Int64.reduceSub, Int64.reduceMul, String.reduceEq, reduceCtorEq, room_c, room_s]
    refine kf0_435 (con2 _ 9 _ _ _ _ _ rfl (by decide)) ?_
    simp only [↓B0, ↓idx_c, ↓setN_c, ↓idxN_c, ↓reduceIte, B1, List.length_cons, List.length_nil, List.mem_cons, List.not_mem_nil, or_false, true_or, or_true, true_and, and_true, and_self, not_true_eq_false, not_false_eq_true, eq_self, ne_eq, Nat.zero_le, Nat.le_refl, Nat.reduceAdd, Nat.reduceSub, Nat.reduceEqDiff, Nat.reduceLeDiff, Int32.reduceLT, Int32.reduceLE, Int32.reduceAdd, Int32.reduceSub, Int32.reduceMul, Int32.reduceToNatClampNeg, Int32.reduceOfNat, Int32.reduceOfInt, Int64.reduceLT, Int64.reduceAdd, Int64.reduceSub, Int64.reduceMul, String.reduceEq, reduceCtorEq, room_c, room_s, sm]
    refine r0 300 ?_
    simp only [↓S0, ↓B0, ↓idx_c, ↓setN_c, ↓idxN_c, ↓reduceIte, B1, List.length_cons, List.length_nil, List.mem_cons, List.not_mem_nil, or_false, true_or, or_true, true_and, and_true, and_self, not_true_eq_false, not_false_eq_true, eq_self, ne_eq, Nat.zero_le, Nat.le_refl, Nat.reduceAdd, Nat.reduceSub, Nat.reduceEqDiff, Nat.reduceLeDiff, Int32.reduceLT, Int32.reduceLE, Int32.reduceAdd, Int32.reduceSub, Int32.reduceMul, Int32.reduceToNatClampNeg, Int32.reduceOfNat, Int32.reduceOfInt, Int64.reduceLT, Int64.reduceAdd, Int64.reduceSub, Int64.reduceMul, String.reduceEq, reduceCtorEq, room_c, room_s]
  · obtain ⟨h0, h1, h2, c1, c2, c3, t0, t1, t2⟩ := facts_3 i0 (by omega) (by omega)
    refine r0 300 ?_
    simp only [↓S0, ↓B0, ↓idx_c, ↓setN_c, ↓idxN_c, ↓reduceIte, B1, List.length_cons, List.length_nil, List.mem_cons, List.not_mem_nil, or_false, true_or, or_true, true_and, and_true, and_self, not_true_eq_false, not_false_eq_true, eq_self, ne_eq, Nat.zero_le, Nat.le_refl, Nat.reduceAdd, Nat.reduceSub, Nat.reduceEqDiff, Nat.reduceLeDiff, Int32.reduceLT, Int32.reduceLE, Int32.reduceAdd, Int32.reduceSub, Int32.reduceMul, Int32.reduceToNatClampNeg, Int32.reduceOfNat, Int32.reduceOfInt, Int64.reduceLT, Int64.reduceAdd, Int64.reduceSub, Int64.reduceMul, String.reduceEq, reduceCtorEq, room_c, room_s, hv]
    refine kf0_72 (con1_0_3 (nar .byte i2) i0 h0 h1 h2) (r0 300 ?_)
    simp only [↓S0, ↓B0, ↓idx_c, ↓setN_c, ↓idxN_c, ↓reduceIte, B1, List.length_cons, List.length_nil, List.mem_cons, List.not_mem_nil, or_false, true_or, or_true, true_and, and_true, and_self, not_true_eq_false, not_false_eq_true, eq_self, ne_eq, Nat.zero_le, Nat.le_refl, Nat.reduceAdd, Nat.reduceSub, Nat.reduceEqDiff, Nat.reduceLeDiff, Int32.reduceLT, Int32.reduceLE, Int32.reduceAdd, Int32.reduceSub, Int32.reduceMul, Int32.reduceToNatClampNeg, Int32.reduceOfNat, Int32.reduceOfInt, Int64.reduceLT, Int64.reduceAdd, Int64.reduceSub, Int64.reduceMul, String.reduceEq, reduceCtorEq, room_c, room_s, c1, c2, c3]
    refine kf0_179 (con2 _ 0 _ _ _ _ _ rfl (by decide)) ?_
    simp only [↓B0, ↓idx_c, ↓setN_c, ↓idxN_c, ↓reduceIte, B1, List.length_cons, List.length_nil, List.mem_cons, List.not_mem_nil, or_false, true_or, or_true, true_and, and_true, and_self, not_true_eq_false, not_false_eq_true, eq_self, ne_eq, Nat.zero_le, Nat.le_refl, Nat.reduceAdd, Nat.reduceSub, Nat.reduceEqDiff, Nat.reduceLeDiff, Int32.reduceLT, Int32.reduceLE, Int32.reduceAdd, Int32.reduceSub, Int32.reduceMul, Int32.reduceToNatClampNeg, Int32.reduceOfNat, Int32.reduceOfInt, Int64.reduceLT, Int64.reduceAdd, Int64.reduceSub, Int64.reduceMul, String.reduceEq, reduceCtorEq, room_c, room_s, sm, t0]
    refine r0 300 ?_
    simp only [↓S0, ↓B0, ↓idx_c, ↓setN_c, ↓idxN_c, ↓reduceIte, B1, List.length_cons, List.length_nil, List.mem_cons, List.not_mem_nil, or_false, true_or, or_true, true_and, and_true, and_self, not_true_eq_false, not_false_eq_true, eq_self, ne_eq, Nat.zero_le, Nat.le_refl, Nat.reduceAdd, Nat.reduceSub, Nat.reduceEqDiff, Nat.reduceLeDiff, Int32.reduceLT, Int32.reduceLE, Int32.reduceAdd, Int32.reduceSub, Int32.reduceMul, Int32.reduceToNatClampNeg, Int32.reduceOfNat, Int32.reduceOfInt, Int64.reduceLT, Int64.reduceAdd, Int64.reduceSub, Int64.reduceMul, String.reduceEq, reduceCtorEq, room_c, room_s]
    refine kf0_207 (con2 _ 1 _ _ _ _ _ rfl (by decide)) ?_
    simp only [↓B0, ↓idx_c, ↓setN_c, ↓idxN_c, ↓reduceIte, B1, List.length_cons, List.length_nil, List.mem_cons, List.not_mem_nil, or_false, true_or, or_true, true_and, and_true, and_self, not_true_eq_false, not_false_eq_true, eq_self, ne_eq, Nat.zero_le, Nat.le_refl, Nat.reduceAdd, Nat.reduceSub, Nat.reduceEqDiff, Nat.reduceLeDiff, Int32.reduceLT, Int32.reduceLE, Int32.reduceAdd, Int32.reduceSub, Int32.reduceMul, Int32.reduceToNatClampNeg, Int32.reduceOfNat, Int32.reduceOfInt, Int64.reduceLT, Int64.reduceAdd, Int64.reduceSub, Int64.reduceMul, String.reduceEq, reduceCtorEq, room_c, room_s, sm, t1]
    refine r0 300 ?_
    simp only [↓S0, ↓B0, ↓idx_c, ↓setN_c, ↓idxN_c, ↓reduceIte, B1, List.length_cons, List.length_nil, List.mem_cons, List.not_mem_nil, or_false, true_or, or_true, true_and, and_true, and_self, not_true_eq_false, not_false_eq_true, eq_self, ne_eq, Nat.zero_le, Nat.le_refl, Nat.reduceAdd, Nat.reduceSub, Nat.reduceEqDiff, Nat.reduceLeDiff, Int32.reduceLT, Int32.reduceLE, Int32.reduceAdd, Int32.reduceSub, Int32.reduceMul, Int32.reduceToNatClampNeg, Int32.reduceOfNat, Int32.reduceOfInt, Int64.reduceLT, Int64.reduceAdd, Int64.reduceSub, Int64.reduceMul, String.reduceEq, reduceCtorEq, room_c, room_s]
    refine kf0_235 (con2 _ 2 _ _ _ _ _ rfl (by decide)) ?_
    simp only [↓B0, ↓idx_c, ↓setN_c, ↓idxN_c, ↓reduceIte, B1, List.length_cons, List.length_nil, List.mem_cons, List.not_mem_nil, or_false, true_or, or_true, true_and, and_true, and_self, not_true_eq_false, not_false_eq_true, eq_self, ne_eq, Nat.zero_le, Nat.le_refl, Nat.reduceAdd, Nat.reduceSub, Nat.reduceEqDiff, Nat.reduceLeDiff, Int32.reduceLT, Int32.reduceLE, Int32.reduceAdd, Int32.reduceSub, Int32.reduceMul, Int32.reduceToNatClampNeg, Int32.reduceOfNat, Int32.reduceOfInt, Int64.reduceLT, Int64.reduceAdd, Int64.reduceSub, Int64.reduceMul, String.reduceEq, reduceCtorEq, room_c, room_s, sm, t2]
    refine r0 300 ?_
    simp only [↓S0, ↓B0, ↓idx_c, ↓setN_c, ↓idxN_c, ↓reduceIte, B1, List.length_cons, List.length_nil, List.mem_cons, List.not_mem_nil, or_false, true_or, or_true, true_and, and_true, and_self, not_true_eq_false, not_false_eq_true, eq_self, ne_eq, Nat.zero_le, Nat.le_refl, Nat.reduceAdd, Nat.reduceSub, Nat.reduceEqDiff, Nat.reduceLeDiff, Int32.reduceLT, Int32.reduceLE, Int32.reduceAdd, Int32.reduceSub, Int32.reduceMul, Int32.reduceToNatClampNeg, Int32.reduceOfNat, Int32.reduceOfInt, Int64.reduceLT, Int64.reduceAdd, Int64.reduceSub, Int64.reduceMul, String.reduceEq, reduceCtorEq, room_c, room_s]
    refine kf0_263 (con2 _ 3 _ _ _ _ _ rfl (by decide)) ?_
    simp only [↓B0, ↓idx_c, ↓setN_c, ↓idxN_c, ↓reduceIte, B1, List.length_cons, List.length_nil, List.mem_cons, List.not_mem_nil, or_false, true_or, or_true, true_and, and_true, and_self, not_true_eq_false, not_false_eq_true, eq_self, ne_eq, Nat.zero_le, Nat.le_refl, Nat.reduceAdd, Nat.reduceSub, Nat.reduceEqDiff, Nat.reduceLeDiff, Int32.reduceLT, Int32.reduceLE, Int32.reduceAdd, Int32.reduceSub, Int32.reduceMul, Int32.reduceToNatClampNeg, Int32.reduceOfNat, Int32.reduceOfInt, Int64.reduceLT, Int64.reduceAdd, Int64.reduceSub, Int64.reduceMul, String.reduceEq, reduceCtorEq, room_c, room_s, sm]
    refine r0 300 ?_
    simp only [↓S0, ↓B0, ↓idx_c, ↓setN_c, ↓idxN_c, ↓reduceIte, B1, List.length_cons, List.length_nil, List.mem_cons, List.not_mem_nil, or_false, true_or, or_true, true_and, and_true, and_self, not_true_eq_false, not_false_eq_true, eq_self, ne_eq, Nat.zero_le, Nat.le_refl, Nat.reduceAdd, Nat.reduceSub, Nat.reduceEqDiff, Nat.reduceLeDiff, Int32.reduceLT, Int32.reduceLE, Int32.reduceAdd, Int32.reduceSub, Int32.reduceMul, Int32.reduceToNatClampNeg, Int32.reduceOfNat, Int32.reduceOfInt, Int64.reduceLT, Int64.reduceAdd, Int64.reduceSub, Int64.reduceMul, String.reduceEq, reduceCtorEq, room_c, room_s]
    refine kf0_291 (con2 _ 4 _ _ _ _ _ rfl (by decide)) ?_
    simp only [↓B0, ↓idx_c, ↓setN_c, ↓idxN_c, ↓reduceIte, B1, List.length_cons, List.length_nil, List.mem_cons, List.not_mem_nil, or_false, true_or, or_true, true_and, and_true, and_self, not_true_eq_false, not_false_eq_true, eq_self, ne_eq, Nat.zero_le, Nat.le_refl, Nat.reduceAdd, Nat.reduceSub, Nat.reduceEqDiff, Nat.reduceLeDiff, Int32.reduceLT, Int32.reduceLE, Int32.reduceAdd, Int32.reduceSub, Int32.reduceMul, Int32.reduceToNatClampNeg, Int32.reduceOfNat, Int32.reduceOfInt, Int64.reduceLT, Int64.reduceAdd, Int64.reduceSub, Int64.reduceMul, String.reduceEq, reduceCtorEq, room_c, room_s, sm]
    refine r0 300 ?_
    simp only [↓S0, ↓B0, ↓idx_c, ↓setN_c, ↓idxN_c, ↓reduceIte, B1, List.length_cons, List.length_nil, List.mem_cons, List.not_mem_nil, or_false, true_or, or_true, true_and, and_true, and_self, not_true_eq_false, not_false_eq_true, eq_self, ne_eq, Nat.zero_le, Nat.le_refl, Nat.reduceAdd, Nat.reduceSub, Nat.reduceEqDiff, Nat.reduceLeDiff, Int32.reduceLT, Int32.reduceLE, Int32.reduceAdd, Int32.reduceSub, Int32.reduceMul, Int32.reduceToNatClampNeg, Int32.reduceOfNat, Int32.reduceOfInt, Int64.reduceLT, Int64.reduceAdd, Int64.reduceSub, Int64.reduceMul, String.reduceEq, reduceCtorEq, room_c, room_s]
    refine kf0_319 (con2 _ 5 _ _ _ _ _ rfl (by decide)) ?_
    simp only [↓B0, ↓idx_c, ↓setN_c, ↓idxN_c, ↓reduceIte, B1, List.length_cons, List.length_nil, List.mem_cons, List.not_mem_nil, or_false, true_or, or_true, true_and, and_true, and_self, not_true_eq_false, not_false_eq_true, eq_self, ne_eq, Nat.zero_le, Nat.le_refl, Nat.reduceAdd, Nat.reduceSub, Nat.reduceEqDiff, Nat.reduceLeDiff, Int32.reduceLT, Int32.reduceLE, Int32.reduceAdd, Int32.reduceSub, Int32.reduceMul, Int32.reduceToNatClampNeg, Int32.reduceOfNat, Int32.reduceOfInt, Int64.reduceLT, Int64.reduceAdd, Int64.reduceSub, Int64.reduceMul, String.reduceEq, reduceCtorEq, room_c, room_s, sm]
    refine r0 300 ?_
    simp only [↓S0, ↓B0, ↓idx_c, ↓setN_c, ↓idxN_c, ↓reduceIte, B1, List.length_cons, List.length_nil, List.mem_cons, List.not_mem_nil, or_false, true_or, or_true, true_and, and_true, and_self, not_true_eq_false, not_false_eq_true, eq_self, ne_eq, Nat.zero_le, Nat.le_refl, Nat.reduceAdd, Nat.reduceSub, Nat.reduceEqDiff, Nat.reduceLeDiff, Int32.reduceLT, Int32.reduceLE, Int32.reduceAdd, Int32.reduceSub, Int32.reduceMul, Int32.reduceToNatClampNeg, Int32.reduceOfNat, Int32.reduceOfInt, Int64.reduceLT, Int64.reduceAdd, Int64.reduceSub, Int64.reduceMul, String.reduceEq, reduceCtorEq, room_c, room_s]
    refine kf0_348 (con2 _ 6 _ _ _ _ _ rfl (by decide)) ?_
    simp only [↓B0, ↓idx_c, ↓setN_c, ↓idxN_c, ↓reduceIte, B1, List.length_cons, List.length_nil, List.mem_cons, List.not_mem_nil, or_false, true_or, or_true, true_and, and_true, and_self, not_true_eq_false, not_false_eq_true, eq_self, ne_eq, Nat.zero_le, Nat.le_refl, Nat.reduceAdd, Nat.reduceSub, Nat.reduceEqDiff, Nat.reduceLeDiff, Int32.reduceLT, Int32.reduceLE, Int32.reduceAdd, Int32.reduceSub, Int32.reduceMul, Int32.reduceToNatClampNeg, Int32.reduceOfNat, Int32.reduceOfInt, Int64.reduceLT, Int64.reduceAdd, Int64.reduceSub, Int64.reduceMul, String.reduceEq, reduceCtorEq, room_c, room_s, sm]
    refine r0 300 ?_
    simp only [↓S0, ↓B0, ↓idx_c, ↓setN_c, ↓idxN_c, ↓reduceIte, B1, List.length_cons, List.length_nil, List.mem_cons, List.not_mem_nil, or_false, true_or, or_true, true_and, and_true, and_self, not_true_eq_false, not_false_eq_true, eq_self, ne_eq, Nat.zero_le, Nat.le_refl, Nat.reduceAdd, Nat.reduceSub, Nat.reduceEqDiff, Nat.reduceLeDiff, Int32.reduceLT, Int32.reduceLE, Int32.reduceAdd, Int32.reduceSub, Int32.reduceMul, Int32.reduceToNatClampNeg, Int32.reduceOfNat, Int32.reduceOfInt, Int64.reduceLT, Int64.reduceAdd, Int64.reduceSub, Int64.reduceMul, String.reduceEq, reduceCtorEq, room_c, room_s]
    refine kf0_377 (con2 _ 7 _ _ _ _ _ rfl (by decide)) ?_
    simp only [↓B0, ↓idx_c, ↓setN_c, ↓idxN_c, ↓reduceIte, B1, List.length_cons, List.length_nil, List.mem_cons, List.not_mem_nil, or_false, true_or, or_true, true_and, and_true, and_self, not_true_eq_false, not_false_eq_true, eq_self, ne_eq, Nat.zero_le, Nat.le_refl, Nat.reduceAdd, Nat.reduceSub, Nat.reduceEqDiff, Nat.reduceLeDiff, Int32.reduceLT, Int32.reduceLE, Int32.reduceAdd, Int32.reduceSub, Int32.reduceMul, Int32.reduceToNatClampNeg, Int32.reduceOfNat, Int32.reduceOfInt, Int64.reduceLT, Int64.reduceAdd, Int64.reduceSub, Int64.reduceMul, String.reduceEq, reduceCtorEq, room_c, room_s, sm]
    refine r0 300 ?_
    simp only [↓S0, ↓B0, ↓idx_c, ↓setN_c, ↓idxN_c, ↓reduceIte, B1, List.length_cons, List.length_nil, List.mem_cons, List.not_mem_nil, or_false, true_or, or_true, true_and, and_true, and_self, not_true_eq_false, not_false_eq_true, eq_self, ne_eq, Nat.zero_le, Nat.le_refl, Nat.reduceAdd, Nat.reduceSub, Nat.reduceEqDiff, Nat.reduceLeDiff, Int32.reduceLT, Int32.reduceLE, Int32.reduceAdd, Int32.reduceSub, Int32.reduceMul, Int32.reduceToNatClampNeg, Int32.reduceOfNat, Int32.reduceOfInt, Int64.reduceLT, Int64.reduceAdd, Int64.reduceSub, Int64.reduceMul, String.reduceEq, reduceCtorEq, room_c, room_s]
    refine kf0_406 (con2 _ 8 _ _ _ _ _ rfl (by decide)) ?_
    simp only [↓B0, ↓idx_c, ↓setN_c, ↓idxN_c, ↓reduceIte, B1, List.length_cons, List.length_nil, List.mem_cons, List.not_mem_nil, or_false, true_or, or_true, true_and, and_true, and_self, not_true_eq_false, not_false_eq_true, eq_self, ne_eq, Nat.zero_le, Nat.le_refl, Nat.reduceAdd, Nat.reduceSub, Nat.reduceEqDiff, Nat.reduceLeDiff, Int32.reduceLT, Int32.reduceLE, Int32.reduceAdd, Int32.reduceSub, Int32.reduceMul, Int32.reduceToNatClampNeg, Int32.reduceOfNat, Int32.reduceOfInt, Int64.reduceLT, Int64.reduceAdd, Int64.reduceSub, Int64.reduceMul, String.reduceEq, reduceCtorEq, room_c, room_s, sm]
    refine r0 300 ?_
    simp only [↓S0, ↓B0, ↓idx_c, ↓setN_c, ↓idxN_c, ↓reduceIte, B1, List.length_cons, List.length_nil, List.mem_cons, List.not_mem_nil, or_false, true_or, or_true, true_and, and_true, and_self, not_true_eq_false, not_false_eq_true, eq_self, ne_eq, Nat.zero_le, Nat.le_refl, Nat.reduceAdd, Nat.reduceSub, Nat.reduceEqDiff, Nat.reduceLeDiff, Int32.reduceLT, Int32.reduceLE, Int32.reduceAdd, Int32.reduceSub, Int32.reduceMul, Int32.reduceToNatClampNeg, Int32.reduceOfNat, Int32.reduceOfInt, Int64.reduceLT, Int64.reduceAdd, Int64.reduceSub, Int64.reduceMul, String.reduceEq, reduceCtorEq, room_c, room_s]
    refine kf0_435 (con2 _ 9 _ _ _ _ _ rfl (by decide)) ?_
    simp only [↓B0, ↓idx_c, ↓setN_c, ↓idxN_c, ↓reduceIte, B1, List.length_cons, List.length_nil, List.mem_cons, List.not_mem_nil, or_false, true_or, or_true, true_and, and_true, and_self, not_true_eq_false, not_false_eq_true, eq_self, ne_eq, Nat.zero_le, Nat.le_refl, Nat.reduceAdd, Nat.reduceSub, Nat.reduceEqDiff, Nat.reduceLeDiff, Int32.reduceLT, Int32.reduceLE, Int32.reduceAdd, Int32.reduceSub, Int32.reduceMul, Int32.reduceToNatClampNeg, Int32.reduceOfNat, Int32.reduceOfInt, Int64.reduceLT, Int64.reduceAdd, Int64.reduceSub, Int64.reduceMul, String.reduceEq, reduceCtorEq, room_c, room_s, sm]
    refine r0 300 ?_
    simp only [↓S0, ↓B0, ↓idx_c, ↓setN_c, ↓idxN_c, ↓reduceIte, B1, List.length_cons, List.length_nil, List.mem_cons, List.not_mem_nil, or_false, true_or, or_true, true_and, and_true, and_self, not_true_eq_false, not_false_eq_true, eq_self, ne_eq, Nat.zero_le, Nat.le_refl, Nat.reduceAdd, Nat.reduceSub, Nat.reduceEqDiff, Nat.reduceLeDiff, Int32.reduceLT, Int32.reduceLE, Int32.reduceAdd, Int32.reduceSub, Int32.reduceMul, Int32.reduceToNatClampNeg, Int32.reduceOfNat, Int32.reduceOfInt, Int64.reduceLT, Int64.reduceAdd, Int64.reduceSub, Int64.reduceMul, String.reduceEq, reduceCtorEq, room_c, room_s]
  · obtain ⟨h0, h1, h2, h3, c1, c2, c3, c4, t0, t1, t2, t3⟩ := facts_4 i0 (by omega) (by omega)
    refine r0 300 ?_
    simp only [↓S0, ↓B0, ↓idx_c, ↓setN_c, ↓idxN_c, ↓reduceIte, B1, List.length_cons, List.length_nil, List.mem_cons, List.not_mem_nil, or_false, true_or, or_true, true_and, and_true, and_self, not_true_eq_false, not_false_eq_true, eq_self, ne_eq, Nat.zero_le, Nat.le_refl, Nat.reduceAdd, Nat.reduceSub, Nat.reduceEqDiff, Nat.reduceLeDiff, Int32.reduceLT, Int32.reduceLE, Int32.reduceAdd, Int32.reduceSub, Int32.reduceMul, Int32.reduceToNatClampNeg, Int32.reduceOfNat, Int32.reduceOfInt, Int64.reduceLT, Int64.reduceAdd, Int64.reduceSub, Int64.reduceMul, String.reduceEq, reduceCtorEq, room_c, room_s, hv]
    refine kf0_72 (con1_0_4 (nar .byte i2) i0 h0 h1 h2 h3) (r0 300 ?_)
    simp only [↓S0, ↓B0, ↓idx_c, ↓setN_c, ↓idxN_c, ↓reduceIte, B1, List.length_cons, List.length_nil, List.mem_cons, List.not_mem_nil, or_false, true_or, or_true, true_and, and_true, and_self, not_true_eq_false, not_false_eq_true, eq_self, ne_eq, Nat.zero_le, Nat.le_refl, Nat.reduceAdd, Nat.reduceSub, Nat.reduceEqDiff, Nat.reduceLeDiff, Int32.reduceLT, Int32.reduceLE, Int32.reduceAdd, Int32.reduceSub, Int32.reduceMul, Int32.reduceToNatClampNeg, Int32.reduceOfNat, Int32.reduceOfInt, Int64.reduceLT, Int64.reduceAdd, Int64.reduceSub, Int64.reduceMul, String.reduceEq, reduceCtorEq, room_c, room_s, c1, c2, c3, c4]
    refine kf0_179 (con2 _ 0 _ _ _ _ _ rfl (by decide)) ?_
    simp only [↓B0, ↓idx_c, ↓setN_c, ↓idxN_c, ↓reduceIte, B1, List.length_cons, List.length_nil, List.mem_cons, List.not_mem_nil, or_false, true_or, or_true, true_and, and_true, and_self, not_true_eq_false, not_false_eq_true, eq_self, ne_eq, Nat.zero_le, Nat.le_refl, Nat.reduceAdd, Nat.reduceSub, Nat.reduceEqDiff, Nat.reduceLeDiff, Int32.reduceLT, Int32.reduceLE, Int32.reduceAdd, Int32.reduceSub, Int32.reduceMul, Int32.reduceToNatClampNeg, Int32.reduceOfNat, Int32.reduceOfInt, Int64.reduceLT, Int64.reduceAdd, Int64.reduceSub, Int64.reduceMul, String.reduceEq, reduceCtorEq, room_c, room_s, sm, t0]
    refine r0 300 ?_
    simp only [↓S0, ↓B0, ↓idx_c, ↓setN_c, ↓idxN_c, ↓reduceIte, B1, List.length_cons, List.length_nil, List.mem_cons, List.not_mem_nil, or_false, true_or, or_true, true_and, and_true, and_self, not_true_eq_false, not_false_eq_true, eq_self, ne_eq, Nat.zero_le, Nat.le_refl, Nat.reduceAdd, Nat.reduceSub, Nat.reduceEqDiff, Nat.reduceLeDiff, Int32.reduceLT, Int32.reduceLE, Int32.reduceAdd, Int32.reduceSub, Int32.reduceMul, Int32.reduceToNatClampNeg, Int32.reduceOfNat, Int32.reduceOfInt, Int64.reduceLT, Int64.reduceAdd, Int64.reduceSub, Int64.reduceMul, String.reduceEq, reduceCtorEq, room_c, room_s]
    refine kf0_207 (con2 _ 1 _ _ _ _ _ rfl (by decide)) ?_
    simp only [↓B0, ↓idx_c, ↓setN_c, ↓idxN_c, ↓reduceIte, B1, List.length_cons, List.length_nil, List.mem_cons, List.not_mem_nil, or_false, true_or, or_true, true_and, and_true, and_self, not_true_eq_false, not_false_eq_true, eq_self, ne_eq, Nat.zero_le, Nat.le_refl, Nat.reduceAdd, Nat.reduceSub, Nat.reduceEqDiff, Nat.reduceLeDiff, Int32.reduceLT, Int32.reduceLE, Int32.reduceAdd, Int32.reduceSub, Int32.reduceMul, Int32.reduceToNatClampNeg, Int32.reduceOfNat, Int32.reduceOfInt, Int64.reduceLT, Int64.reduceAdd, Int64.reduceSub, Int64.reduceMul, String.reduceEq, reduceCtorEq, room_c, room_s, sm, t1]
    refine r0 300 ?_
    simp only [↓S0, ↓B0, ↓idx_c, ↓setN_c, ↓idxN_c, ↓reduceIte, B1, List.length_cons, List.length_nil, List.mem_cons, List.not_mem_nil, or_false, true_or, or_true, true_and, and_true, and_self, not_true_eq_false, not_false_eq_true, eq_self, ne_eq, Nat.zero_le, Nat.le_refl, Nat.reduceAdd, Nat.reduceSub, Nat.reduceEqDiff, Nat.reduceLeDiff, Int32.reduceLT, Int32.reduceLE, Int32.reduceAdd, Int32.reduceSub, Int32.reduceMul, Int32.reduceToNatClampNeg, Int32.reduceOfNat, Int32.reduceOfInt, Int64.reduceLT, Int64.reduceAdd, Int64.reduceSub, Int64.reduceMul, String.reduceEq, reduceCtorEq, room_c, room_s]
    refine kf0_235 (con2 _ 2 _ _ _ _ _ rfl (by decide)) ?_
    simp only [↓B0, ↓idx_c, ↓setN_c, ↓idxN_c, ↓reduceIte, B1, List.length_cons, List.length_nil, List.mem_cons, List.not_mem_nil, or_false, true_or, or_true, true_and, and_true, and_self, not_true_eq_false, not_false_eq_true, eq_self, ne_eq, Nat.zero_le, Nat.le_refl, Nat.reduceAdd, Nat.reduceSub, Nat.reduceEqDiff, Nat.reduceLeDiff, Int32.reduceLT, Int32.reduceLE, Int32.reduceAdd, Int32.reduceSub, Int32.reduceMul, Int32.reduceToNatClampNeg, Int32.reduceOfNat, Int32.reduceOfInt, Int64.reduceLT, Int64.reduceAdd, Int64.reduceSub, Int64.reduceMul, String.reduceEq, reduceCtorEq, room_c, room_s, sm, t2]
    refine r0 300 ?_
    simp only [↓S0, ↓B0, ↓idx_c, ↓setN_c, ↓idxN_c, ↓reduceIte, B1, List.length_cons, List.length_nil, List.mem_cons, List.not_mem_nil, or_false, true_or, or_true, true_and, and_true, and_self, not_true_eq_false, not_false_eq_true, eq_self, ne_eq, Nat.zero_le, Nat.le_refl, Nat.reduceAdd, Nat.reduceSub, Nat.reduceEqDiff, Nat.reduceLeDiff, Int32.reduceLT, Int32.reduceLE, Int32.reduceAdd, Int32.reduceSub, Int32.reduceMul, Int32.reduceToNatClampNeg, Int32.reduceOfNat, Int32.reduceOfInt, Int64.reduceLT, Int64.reduceAdd, Int64.reduceSub, Int64.reduceMul, String.reduceEq, reduceCtorEq, room_c, room_s]
    refine kf0_263 (con2 _ 3 _ _ _ _ _ rfl (by decide)) ?_
    simp only [↓B0, ↓idx_c, ↓setN_c, ↓idxN_c, ↓reduceIte, B1, List.length_cons, List.length_nil, List.mem_cons, List.not_mem_nil, or_false, true_or, or_true, true_and, and_true, and_self, not_true_eq_false, not_false_eq_true, eq_self, ne_eq, Nat.zero_le, Nat.le_refl, Nat.reduceAdd, Nat.reduceSub, Nat.reduceEqDiff, Nat.reduceLeDiff, Int32.reduceLT, Int32.reduceLE, Int32.reduceAdd, Int32.reduceSub, Int32.reduceMul, Int32.reduceToNatClampNeg, Int32.reduceOfNat, Int32.reduceOfInt, Int64.reduceLT, Int64.reduceAdd, Int64.reduceSub, Int64.reduceMul, String.reduceEq, reduceCtorEq, room_c, room_s, sm, t3]
    refine r0 300 ?_
    simp only [↓S0, ↓B0, ↓idx_c, ↓setN_c, ↓idxN_c, ↓reduceIte, B1, List.length_cons, List.length_nil, List.mem_cons, List.not_mem_nil, or_false, true_or, or_true, true_and, and_true, and_self, not_true_eq_false, not_false_eq_true, eq_self, ne_eq, Nat.zero_le, Nat.le_refl, Nat.reduceAdd, Nat.reduceSub, Nat.reduceEqDiff, Nat.reduceLeDiff, Int32.reduceLT, Int32.reduceLE, Int32.reduceAdd, Int32.reduceSub, Int32.reduceMul, Int32.reduceToNatClampNeg, Int32.reduceOfNat, Int32.reduceOfInt, Int64.reduceLT, Int64.reduceAdd, Int64.reduceSub, Int64.reduceMul, String.reduceEq, reduceCtorEq, room_c, room_s]
    refine kf0_291 (con2 _ 4 _ _ _ _ _ rfl (by decide)) ?_
    simp only [↓B0, ↓idx_c, ↓setN_c, ↓idxN_c, ↓reduceIte, B1, List.length_cons, List.length_nil, List.mem_cons, List.not_mem_nil, or_false, true_or, or_true, true_and, and_true, and_self, not_true_eq_false, not_false_eq_true, eq_self, ne_eq, Nat.zero_le, Nat.le_refl, Nat.reduceAdd, Nat.reduceSub, Nat.reduceEqDiff, Nat.reduceLeDiff, Int32.reduceLT, Int32.reduceLE, Int32.reduceAdd, Int32.reduceSub, Int32.reduceMul, Int32.reduceToNatClampNeg, Int32.reduceOfNat, Int32.reduceOfInt, Int64.reduceLT, Int64.reduceAdd, Int64.reduceSub, Int64.reduceMul, String.reduceEq, reduceCtorEq, room_c, room_s, sm]
    refine r0 300 ?_
    simp only [↓S0, ↓B0, ↓idx_c, ↓setN_c, ↓idxN_c, ↓reduceIte, B1, List.length_cons, List.length_nil, List.mem_cons, List.not_mem_nil, or_false, true_or, or_true, true_and, and_true, and_self, not_true_eq_false, not_false_eq_true, eq_self, ne_eq, Nat.zero_le, Nat.le_refl, Nat.reduceAdd, Nat.reduceSub, Nat.reduceEqDiff, Nat.reduceLeDiff, Int32.reduceLT, Int32.reduceLE, Int32.reduceAdd, Int32.reduceSub, Int32.reduceMul, Int32.reduceToNatClampNeg, Int32.reduceOfNat, Int32.reduceOfInt, Int64.reduceLT, Int64.reduceAdd, Int64.reduceSub, Int64.reduceMul, String.reduceEq, reduceCtorEq, room_c, room_s]
    refine kf0_319 (con2 _ 5 _ _ _ _ _ rfl (by decide)) ?_
    simp only [↓B0, ↓idx_c, ↓setN_c, ↓idxN_c, ↓reduceIte, B1, List.length_cons, List.length_nil, List.mem_cons, List.not_mem_nil, or_false, true_or, or_true, true_and, and_true, and_self, not_true_eq_false, not_false_eq_true, eq_self, ne_eq, Nat.zero_le, Nat.le_refl, Nat.reduceAdd, Nat.reduceSub, Nat.reduceEqDiff, Nat.reduceLeDiff, Int32.reduceLT, Int32.reduceLE, Int32.reduceAdd, Int32.reduceSub, Int32.reduceMul, Int32.reduceToNatClampNeg, Int32.reduceOfNat, Int32.reduceOfInt, Int64.reduceLT, Int64.reduceAdd, Int64.reduceSub, Int64.reduceMul, String.reduceEq, reduceCtorEq, room_c, room_s, sm]
    refine r0 300 ?_
    simp only [↓S0, ↓B0, ↓idx_c, ↓setN_c, ↓idxN_c, ↓reduceIte, B1, List.length_cons, List.length_nil, List.mem_cons, List.not_mem_nil, or_false, true_or, or_true, true_and, and_true, and_self, not_true_eq_false, not_false_eq_true, eq_self, ne_eq, Nat.zero_le, Nat.le_refl, Nat.reduceAdd, Nat.reduceSub, Nat.reduceEqDiff, Nat.reduceLeDiff, Int32.reduceLT, Int32.reduceLE, Int32.reduceAdd, Int32.reduceSub, Int32.reduceMul, Int32.reduceToNatClampNeg, Int32.reduceOfNat, Int32.reduceOfInt, Int64.reduceLT, Int64.reduceAdd, Int64.reduceSub, Int64.reduceMul, String.reduceEq, reduceCtorEq, room_c, room_s]
    refine kf0_348 (con2 _ 6 _ _ _ _ _ rfl (by decide)) ?_
    simp only [↓B0, ↓idx_c, ↓setN_c, ↓idxN_c, ↓reduceIte, B1, List.length_cons, List.length_nil, List.mem_cons, List.not_mem_nil, or_false, true_or, or_true, true_and, and_true, and_self, not_true_eq_false, not_false_eq_true, eq_self, ne_eq, Nat.zero_le, Nat.le_refl, Nat.reduceAdd, Nat.reduceSub, Nat.reduceEqDiff, Nat.reduceLeDiff, Int32.reduceLT, Int32.reduceLE, Int32.reduceAdd, Int32.reduceSub, Int32.reduceMul, Int32.reduceToNatClampNeg, Int32.reduceOfNat, Int32.reduceOfInt, Int64.reduceLT, Int64.reduceAdd, Int64.reduceSub, Int64.reduceMul, String.reduceEq, reduceCtorEq, room_c, room_s, sm]
    refine r0 300 ?_
    simp only [↓S0, ↓B0, ↓idx_c, ↓setN_c, ↓idxN_c, ↓reduceIte, B1, List.length_cons, List.length_nil, List.mem_cons, List.not_mem_nil, or_false, true_or, or_true, true_and, and_true, and_self, not_true_eq_false, not_false_eq_true, eq_self, ne_eq, Nat.zero_le, Nat.le_refl, Nat.reduceAdd, Nat.reduceSub, Nat.reduceEqDiff, Nat.reduceLeDiff, Int32.reduceLT, Int32.reduceLE, Int32.reduceAdd, Int32.reduceSub, Int32.reduceMul, Int32.reduceToNatClampNeg, Int32.reduceOfNat, Int32.reduceOfInt, Int64.reduceLT, Int64.reduceAdd, Int64.reduceSub, Int64.reduceMul, String.reduceEq, reduceCtorEq, room_c, room_s]
    refine kf0_377 (con2 _ 7 _ _ _ _ _ rfl (by decide)) ?_
    simp only [↓B0, ↓idx_c, ↓setN_c, ↓idxN_c, ↓reduceIte, B1, List.length_cons, List.length_nil, List.mem_cons, List.not_mem_nil, or_false, true_or, or_true, true_and, and_true, and_self, not_true_eq_false, not_false_eq_true, eq_self, ne_eq, Nat.zero_le, Nat.le_refl, Nat.reduceAdd, Nat.reduceSub, Nat.reduceEqDiff, Nat.reduceLeDiff, Int32.reduceLT, Int32.reduceLE, Int32.reduceAdd, Int32.reduceSub, Int32.reduceMul, Int32.reduceToNatClampNeg, Int32.reduceOfNat, Int32.reduceOfInt, Int64.reduceLT, Int64.reduceAdd, Int64.reduceSub, Int64.reduceMul, String.reduceEq, reduceCtorEq, room_c, room_s, sm]
    refine r0 300 ?_
    simp only [↓S0, ↓B0, ↓idx_c, ↓setN_c, ↓idxN_c, ↓reduceIte, B1, List.length_cons, List.length_nil, List.mem_cons, List.not_mem_nil, or_false, true_or, or_true, true_and, and_true, and_self, not_true_eq_false, not_false_eq_true, eq_self, ne_eq, Nat.zero_le, Nat.le_refl, Nat.reduceAdd, Nat.reduceSub, Nat.reduceEqDiff, Nat.reduceLeDiff, Int32.reduceLT, Int32.reduceLE, Int32.reduceAdd, Int32.reduceSub, Int32.reduceMul, Int32.reduceToNatClampNeg, Int32.reduceOfNat, Int32.reduceOfInt, Int64.reduceLT, Int64.reduceAdd, Int64.reduceSub, Int64.reduceMul, String.reduceEq, reduceCtorEq, room_c, room_s]
    refine kf0_406 (con2 _ 8 _ _ _ _ _ rfl (by decide)) ?_
    simp only [↓B0, ↓idx_c, ↓setN_c, ↓idxN_c, ↓reduceIte, B1, List.length_cons, List.length_nil, List.mem_cons, List.not_mem_nil, or_false, true_or, or_true, true_and, and_true, and_self, not_true_eq_false, not_false_eq_true, eq_self, ne_eq, Nat.zero_le, Nat.le_refl, Nat.reduceAdd, Nat.reduceSub, Nat.reduceEqDiff, Nat.reduceLeDiff, Int32.reduceLT, Int32.reduceLE, Int32.reduceAdd, Int32.reduceSub, Int32.reduceMul, Int32.reduceToNatClampNeg, Int32.reduceOfNat, Int32.reduceOfInt, Int64.reduceLT, Int64.reduceAdd, Int64.reduceSub, Int64.reduceMul, String.reduceEq, reduceCtorEq, room_c, room_s, sm]
    refine r0 300 ?_
    simp only [↓S0, ↓B0, ↓idx_c, ↓setN_c, ↓idxN_c, ↓reduceIte, B1, List.length_cons, List.length_nil, List.mem_cons, List.not_mem_nil, or_false, true_or, or_true, true_and, and_true, and_self, not_true_eq_false, not_false_eq_true, eq_self, ne_eq, Nat.zero_le, Nat.le_refl, Nat.reduceAdd, Nat.reduceSub, Nat.reduceEqDiff, Nat.reduceLeDiff, Int32.reduceLT, Int32.reduceLE, Int32.reduceAdd, Int32.reduceSub, Int32.reduceMul, Int32.reduceToNatClampNeg, Int32.reduceOfNat, Int32.reduceOfInt, Int64.reduceLT, Int64.reduceAdd, Int64.reduceSub, Int64.reduceMul, String.reduceEq, reduceCtorEq, room_c, room_s]
    refine kf0_435 (con2 _ 9 _ _ _ _ _ rfl (by decide)) ?_
    simp only [↓B0, ↓idx_c, ↓setN_c, ↓idxN_c, ↓reduceIte, B1, List.length_cons, List.length_nil, List.mem_cons, List.not_mem_nil, or_false, true_or, or_true, true_and, and_true, and_self, not_true_eq_false, not_false_eq_true, eq_self, ne_eq, Nat.zero_le, Nat.le_refl, Nat.reduceAdd, Nat.reduceSub, Nat.reduceEqDiff, Nat.reduceLeDiff, Int32.reduceLT, Int32.reduceLE, Int32.reduceAdd, Int32.reduceSub, Int32.reduceMul, Int32.reduceToNatClampNeg, Int32.reduceOfNat, Int32.reduceOfInt, Int64.reduceLT, Int64.reduceAdd, Int64.reduceSub, Int64.reduceMul, String.reduceEq, reduceCtorEq, room_c, room_s, sm]
    refine r0 300 ?_
    simp only [↓S0, ↓B0, ↓idx_c, ↓setN_c, ↓idxN_c, ↓reduceIte, B1, List.length_cons, List.length_nil, List.mem_cons, List.not_mem_nil, or_false, true_or, or_true, true_and, and_true, and_self, not_true_eq_false, not_false_eq_true, eq_self, ne_eq, Nat.zero_le, Nat.le_refl, Nat.reduceAdd, Nat.reduceSub, Nat.reduceEqDiff, Nat.reduceLeDiff, Int32.reduceLT, Int32.reduceLE, Int32.reduceAdd, Int32.reduceSub, Int32.reduceMul, Int32.reduceToNatClampNeg, Int32.reduceOfNat, Int32.reduceOfInt, Int64.reduceLT, Int64.reduceAdd, Int64.reduceSub, Int64.reduceMul, String.reduceEq, reduceCtorEq, room_c, room_s]
  · obtain ⟨h0, h1, h2, h3, h4, c1, c2, c3, c4, t0, t1, t2, t3, t4⟩ := facts_5 i0 (by omega) (by omega)
    refine r0 300 ?_
    simp only [↓S0, ↓B0, ↓idx_c, ↓setN_c, ↓idxN_c, ↓reduceIte, B1, List.length_cons, List.length_nil, List.mem_cons, List.not_mem_nil, or_false, true_or, or_true, true_and, and_true, and_self, not_true_eq_false, not_false_eq_true, eq_self, ne_eq, Nat.zero_le, Nat.le_refl, Nat.reduceAdd, Nat.reduceSub, Nat.reduceEqDiff, Nat.reduceLeDiff, Int32.reduceLT, Int32.reduceLE, Int32.reduceAdd, Int32.reduceSub, Int32.reduceMul, Int32.reduceToNatClampNeg, Int32.reduceOfNat, Int32.reduceOfInt, Int64.reduceLT, Int64.reduceAdd, Int64.reduceSub, Int64.reduceMul, String.reduceEq, reduceCtorEq, room_c, room_s, hv]
    refine kf0_72 (con1_0_5 (nar .byte i2) i0 h0 h1 h2 h3 h4) (r0 300 ?_)
    simp only [↓S0, ↓B0, ↓idx_c, ↓setN_c, ↓idxN_c, ↓reduceIte, B1, List.length_cons, List.length_nil, List.mem_cons, List.not_mem_nil, or_false, true_or, or_true, true_and, and_true, and_self, not_true_eq_false, not_false_eq_true, eq_self, ne_eq, Nat.zero_le, Nat.le_refl, Nat.reduceAdd, Nat.reduceSub, Nat.reduceEqDiff, Nat.reduceLeDiff, Int32.reduceLT, Int32.reduceLE, Int32.reduceAdd, Int32.reduceSub, Int32.reduceMul, Int32.reduceToNatClampNeg, Int32.reduceOfNat, Int32.reduceOfInt, Int64.reduceLT, Int64.reduceAdd, Int64.reduceSub, Int64.reduceMul, String.reduceEq, reduceCtorEq, room_c, room_s, c1, c2, c3, c4]
    refine kf0_179 (con2 _ 0 _ _ _ _ _ rfl (by decide)) ?_
    simp only [↓B0, ↓idx_c, ↓setN_c, ↓idxN_c, ↓reduceIte, B1, List.length_cons, List.length_nil, List.mem_cons, List.not_mem_nil, or_false, true_or, or_true, true_and, and_true, and_self, not_true_eq_false, not_false_eq_true, eq_self, ne_eq, Nat.zero_le, Nat.le_refl, Nat.reduceAdd, Nat.reduceSub, Nat.reduceEqDiff, Nat.reduceLeDiff, Int32.reduceLT, Int32.reduceLE, Int32.reduceAdd, Int32.reduceSub, Int32.reduceMul, Int32.reduceToNatClampNeg, Int32.reduceOfNat, Int32.reduceOfInt, Int64.reduceLT, Int64.reduceAdd, Int64.reduceSub, Int64.reduceMul, String.reduceEq, reduceCtorEq, room_c, room_s, sm, t0]
    refine r0 300 ?_
    simp only [↓S0, ↓B0, ↓idx_c, ↓setN_c, ↓idxN_c, ↓reduceIte, B1, List.length_cons, List.length_nil, List.mem_cons, List.not_mem_nil, or_false, true_or, or_true, true_and, and_true, and_self, not_true_eq_false, not_false_eq_true, eq_self, ne_eq, Nat.zero_le, Nat.le_refl, Nat.reduceAdd, Nat.reduceSub, Nat.reduceEqDiff, Nat.reduceLeDiff, Int32.reduceLT, Int32.reduceLE, Int32.reduceAdd, Int32.reduceSub, Int32.reduceMul, Int32.reduceToNatClampNeg, Int32.reduceOfNat, Int32.reduceOfInt, Int64.reduceLT, Int64.reduceAdd, Int64.reduceSub, Int64.reduceMul, String.reduceEq, reduceCtorEq, room_c, room_s]
    refine kf0_207 (con2 _ 1 _ _ _ _ _ rfl (by decide)) ?_
    simp only [↓B0, ↓idx_c, ↓setN_c, ↓idxN_c, ↓reduceIte, B1, List.length_cons, List.length_nil, List.mem_cons, List.not_mem_nil, or_false, true_or, or_true, true_and, and_true, and_self, not_true_eq_false, not_false_eq_true, eq_self, ne_eq, Nat.zero_le, Nat.le_refl, Nat.reduceAdd, Nat.reduceSub, Nat.reduceEqDiff, Nat.reduceLeDiff, Int32.reduceLT, Int32.reduceLE, Int32.reduceAdd, Int32.reduceSub, Int32.reduceMul, Int32.reduceToNatClampNeg, Int32.reduceOfNat, Int32.reduceOfInt, Int64.reduceLT, Int64.reduceAdd, Int64.reduceSub, Int64.reduceMul, String.reduceEq, reduceCtorEq, room_c, room_s, sm, t1]
    refine r0 300 ?_
    simp only [↓S0, ↓B0, ↓idx_c, ↓setN_c, ↓idxN_c, ↓reduceIte, B1, List.length_cons, List.length_nil, List.mem_cons, List.not_mem_nil, or_false, true_or, or_true, true_and, and_true, and_self, not_true_eq_false, not_false_eq_true, eq_self, ne_eq, Nat.zero_le, Nat.le_refl, Nat.reduceAdd, Nat.reduceSub, Nat.reduceEqDiff, Nat.reduceLeDiff, Int32.reduceLT, Int32.reduceLE, Int32.reduceAdd, Int32.reduceSub, Int32.reduceMul, Int32.reduceToNatClampNeg, Int32.reduceOfNat, Int32.reduceOfInt, Int64.reduceLT, Int64.reduceAdd, Int64.reduceSub, Int64.reduceMul, String.reduceEq, reduceCtorEq, room_c, room_s]
    refine kf0_235 (con2 _ 2 _ _ _ _ _ rfl (by decide)) ?_
    simp only [↓B0, ↓idx_c, ↓setN_c, ↓idxN_c, ↓reduceIte, B1, List.length_cons, List.length_nil, List.mem_cons, List.not_mem_nil, or_false, true_or, or_true, true_and, and_true, and_self, not_true_eq_false, not_false_eq_true, eq_self, ne_eq, Nat.zero_le, Nat.le_refl, Nat.reduceAdd, Nat.reduceSub, Nat.reduceEqDiff, Nat.reduceLeDiff, Int32.reduceLT, Int32.reduceLE, Int32.reduceAdd, Int32.reduceSub, Int32.reduceMul, Int32.reduceToNatClampNeg, Int32.reduceOfNat, Int32.reduceOfInt, Int64.reduceLT, Int64.reduceAdd, Int64.reduceSub, Int64.reduceMul, String.reduceEq, reduceCtorEq, room_c, room_s, sm, t2]
    refine r0 300 ?_
    simp only [↓S0, ↓B0, ↓idx_c, ↓setN_c, ↓idxN_c, ↓reduceIte, B1, List.length_cons, List.length_nil, List.mem_cons, List.not_mem_nil, or_false, true_or, or_true, true_and, and_true, and_self, not_true_eq_false, not_false_eq_true, eq_self, ne_eq, Nat.zero_le, Nat.le_refl, Nat.reduceAdd, Nat.reduceSub, Nat.reduceEqDiff, Nat.reduceLeDiff, Int32.reduceLT, Int32.reduceLE, Int32.reduceAdd, Int32.reduceSub, Int32.reduceMul, Int32.reduceToNatClampNeg, Int32.reduceOfNat, Int32.reduceOfInt, Int64.reduceLT, Int64.reduceAdd, Int64.reduceSub, Int64.reduceMul, String.reduceEq, reduceCtorEq, room_c, room_s]
    refine kf0_263 (con2 _ 3 _ _ _ _ _ rfl (by decide)) ?_
    simp only [↓B0, ↓idx_c, ↓setN_c, ↓idxN_c, ↓reduceIte, B1, List.length_cons, List.length_nil, List.mem_cons, List.not_mem_nil, or_false, true_or, or_true, true_and, and_true, and_self, not_true_eq_false, not_false_eq_true, eq_self, ne_eq, Nat.zero_le, Nat.le_refl, Nat.reduceAdd, Nat.reduceSub, Nat.reduceEqDiff, Nat.reduceLeDiff, Int32.reduceLT, Int32.reduceLE, Int32.reduceAdd, Int32.reduceSub, Int32.reduceMul, Int32.reduceToNatClampNeg, Int32.reduceOfNat, Int32.reduceOfInt, Int64.reduceLT, Int64.reduceAdd, Int64.reduceSub, Int64.reduceMul, String.reduceEq, reduceCtorEq, room_c, room_s, sm, t3]
    refine r0 300 ?_
    simp only [↓S0, ↓B0, ↓idx_c, ↓setN_c, ↓idxN_c, ↓reduceIte, B1, List.length_cons, List.length_nil, List.mem_cons, List.not_mem_nil, or_false, true_or, or_true, true_and, and_true, and_self, not_true_eq_false, not_false_eq_true, eq_self, ne_eq, Nat.zero_le, Nat.le_refl, Nat.reduceAdd, Nat.reduceSub, Nat.reduceEqDiff, Nat.reduceLeDiff, Int32.reduceLT, Int32.reduceLE, Int32.reduceAdd, Int32.reduceSub, Int32.reduceMul, Int32.reduceToNatClampNeg, Int32.reduceOfNat, Int32.reduceOfInt, Int64.reduceLT, Int64.reduceAdd, Int64.reduceSub, Int64.reduceMul, String.reduceEq, reduceCtorEq, room_c, room_s]
    refine kf0_291 (con2 _ 4 _ _ _ _ _ rfl (by decide)) ?_
    simp only [↓B0, ↓idx_c, ↓setN_c, ↓idxN_c, ↓reduceIte, B1, List.length_cons, List.length_nil, List.mem_cons, List.not_mem_nil, or_false, true_or, or_true, true_and, and_true, and_self, not_true_eq_false, not_false_eq_true, eq_self, ne_eq, Nat.zero_le, Nat.le_refl, Nat.reduceAdd, Nat.reduceSub, Nat.reduceEqDiff, Nat.reduceLeDiff, Int32.reduceLT, Int32.reduceLE, Int32.reduceAdd, Int32.reduceSub, Int32.reduceMul, Int32.reduceToNatClampNeg, Int32.reduceOfNat, Int32.reduceOfInt, Int64.reduceLT, Int64.reduceAdd, Int64.reduceSub, Int64.reduceMul, String.reduceEq, reduceCtorEq, room_c, room_s, sm, t4]
    refine r0 300 ?_
    simp only [↓S0, ↓B0, ↓idx_c, ↓setN_c, ↓idxN_c, ↓reduceIte, B1, List.length_cons, List.length_nil, List.mem_cons, List.not_mem_nil, or_false, true_or, or_true, true_and, and_true, and_self, not_true_eq_false, not_false_eq_true, eq_self, ne_eq, Nat.zero_le, Nat.le_refl, Nat.reduceAdd, Nat.reduceSub, Nat.reduceEqDiff, Nat.reduceLeDiff, Int32.reduceLT, Int32.reduceLE, Int32.reduceAdd, Int32.reduceSub, Int32.reduceMul, Int32.reduceToNatClampNeg, Int32.reduceOfNat, Int32.reduceOfInt, Int64.reduceLT, Int64.reduceAdd, Int64.reduceSub, Int64.reduceMul, String.reduceEq, reduceCtorEq, room_c, room_s]
    refine kf0_319 (con2 _ 5 _ _ _ _ _ rfl (by decide)) ?_
    simp only [↓B0, ↓idx_c, ↓setN_c, ↓idxN_c, ↓reduceIte, B1, List.length_cons, List.length_nil, List.mem_cons, List.not_mem_nil, or_false, true_or, or_true, true_and, and_true, and_self, not_true_eq_false, not_false_eq_true, eq_self, ne_eq, Nat.zero_le, Nat.le_refl, Nat.reduceAdd, Nat.reduceSub, Nat.reduceEqDiff, Nat.reduceLeDiff, Int32.reduceLT, Int32.reduceLE, Int32.reduceAdd, Int32.reduceSub, Int32.reduceMul, Int32.reduceToNatClampNeg, Int32.reduceOfNat, Int32.reduceOfInt, Int64.reduceLT, Int64.reduceAdd, Int64.reduceSub, Int64.reduceMul, String.reduceEq, reduceCtorEq, room_c, room_s, sm]
    refine r0 300 ?_
    simp only [↓S0, ↓B0, ↓idx_c, ↓setN_c, ↓idxN_c, ↓reduceIte, B1, List.length_cons, List.length_nil, List.mem_cons, List.not_mem_nil, or_false, true_or, or_true, true_and, and_true, and_self, not_true_eq_false, not_false_eq_true, eq_self, ne_eq, Nat.zero_le, Nat.le_refl, Nat.reduceAdd, Nat.reduceSub, Nat.reduceEqDiff, Nat.reduceLeDiff, Int32.reduceLT, Int32.reduceLE, Int32.reduceAdd, Int32.reduceSub, Int32.reduceMul, Int32.reduceToNatClampNeg, Int32.reduceOfNat, Int32.reduceOfInt, Int64.reduceLT, Int64.reduceAdd, Int64.reduceSub, Int64.reduceMul, String.reduceEq, reduceCtorEq, room_c, room_s]
    refine kf0_348 (con2 _ 6 _ _ _ _ _ rfl (by decide)) ?_
    simp only [↓B0, ↓idx_c, ↓setN_c, ↓idxN_c, ↓reduceIte, B1, List.length_cons, List.length_nil, List.mem_cons, List.not_mem_nil, or_false, true_or, or_true, true_and, and_true, and_self, not_true_eq_false, not_false_eq_true, eq_self, ne_eq, Nat.zero_le, Nat.le_refl, Nat.reduceAdd, Nat.reduceSub, Nat.reduceEqDiff, Nat.reduceLeDiff, Int32.reduceLT, Int32.reduceLE, Int32.reduceAdd, Int32.reduceSub, Int32.reduceMul, Int32.reduceToNatClampNeg, Int32.reduceOfNat, Int32.reduceOfInt, Int64.reduceLT, Int64.reduceAdd, Int64.reduceSub, Int64.reduceMul, String.reduceEq, reduceCtorEq, room_c, room_s, sm]
    refine r0 300 ?_
    simp only [↓S0, ↓B0, ↓idx_c, ↓setN_c, ↓idxN_c, ↓reduceIte, B1, List.length_cons, List.length_nil, List.mem_cons, List.not_mem_nil, or_false, true_or, or_true, true_and, and_true, and_self, not_true_eq_false, not_false_eq_true, eq_self, ne_eq, Nat.zero_le, Nat.le_refl, Nat.reduceAdd, Nat.reduceSub, Nat.reduceEqDiff, Nat.reduceLeDiff, Int32.reduceLT, Int32.reduceLE, Int32.reduceAdd, Int32.reduceSub, Int32.reduceMul, Int32.reduceToNatClampNeg, Int32.reduceOfNat, Int32.reduceOfInt, Int64.reduceLT, Int64.reduceAdd, Int64.reduceSub, Int64.reduceMul, String.reduceEq, reduceCtorEq, room_c, room_s]
    refine kf0_377 (con2 _ 7 _ _ _ _ _ rfl (by decide)) ?_
    simp only [↓B0, ↓idx_c, ↓setN_c, ↓idxN_c, ↓reduceIte, B1, List.length_cons, List.length_nil, List.mem_cons, List.not_mem_nil, or_false, true_or, or_true, true_and, and_true, and_self, not_true_eq_false, not_false_eq_true, eq_self, ne_eq, Nat.zero_le, Nat.le_refl, Nat.reduceAdd, Nat.reduceSub, Nat.reduceEqDiff, Nat.reduceLeDiff, Int32.reduceLT, Int32.reduceLE, Int32.reduceAdd, Int32.reduceSub, Int32.reduceMul, Int32.reduceToNatClampNeg, Int32.reduceOfNat, Int32.reduceOfInt, Int64.reduceLT, Int64.reduceAdd, Int64.reduceSub, Int64.reduceMul, String.reduceEq, reduceCtorEq, room_c, room_s, sm]
    refine r0 300 ?_
    simp only [↓S0, ↓B0, ↓idx_c, ↓setN_c, ↓idxN_c, ↓reduceIte, B1, List.length_cons, List.length_nil, List.mem_cons, List.not_mem_nil, or_false, true_or, or_true, true_and, and_true, and_self, not_true_eq_false, not_false_eq_true, eq_self, ne_eq, Nat.zero_le, Nat.le_refl, Nat.reduceAdd, Nat.reduceSub, Nat.reduceEqDiff, Nat.reduceLeDiff, Int32.reduceLT, Int32.reduceLE, Int32.reduceAdd, Int32.reduceSub, Int32.reduceMul, Int32.reduceToNatClampNeg, Int32.reduceOfNat, Int32.reduceOfInt, Int64.reduceLT, Int64.reduceAdd, Int64.reduceSub, Int64.reduceMul, String.reduceEq, reduceCtorEq, room_c, room_s]
    refine kf0_406 (con2 _ 8 _ _ _ _ _ rfl (by decide)) ?_
    simp only [↓B0, ↓idx_c, ↓setN_c, ↓idxN_c, ↓reduceIte, B1, List.length_cons, List.length_nil, List.mem_cons, List.not_mem_nil, or_false, true_or, or_true, true_and, and_true, and_self, not_true_eq_false, not_false_eq_true, eq_self, ne_eq, Nat.zero_le, Nat.le_refl, Nat.reduceAdd, Nat.reduceSub, Nat.reduceEqDiff, Nat.reduceLeDiff, Int32.reduceLT, Int32.reduceLE, Int32.reduceAdd, Int32.reduceSub, Int32.reduceMul, Int32.reduceToNatClampNeg, Int32.reduceOfNat, Int32.reduceOfInt, Int64.reduceLT, Int64.reduceAdd, Int64.reduceSub, Int64.reduceMul, String.reduceEq, reduceCtorEq, room_c, room_s, sm]
    refine r0 300 ?_
    simp only [↓S0, ↓B0, ↓idx_c, ↓setN_c, ↓idxN_c, ↓reduceIte, B1, List.length_cons, List.length_nil, List.mem_cons, List.not_mem_nil, or_false, true_or, or_true, true_and, and_true, and_self, not_true_eq_false, not_false_eq_true, eq_self, ne_eq, Nat.zero_le, Nat.le_refl, Nat.reduceAdd, Nat.reduceSub, Nat.reduceEqDiff, Nat.reduceLeDiff, Int32.reduceLT, Int32.reduceLE, Int32.reduceAdd, Int32.reduceSub, Int32.reduceMul, Int32.reduceToNatClampNeg, Int32.reduceOfNat, Int32.reduceOfInt, Int64.reduceLT, Int64.reduceAdd, Int64.reduceSub, Int64.reduceMul, String.reduceEq, reduceCtorEq, room_c, room_s]
    refine kf0_435 (con2 _ 9 _ _ _ _ _ rfl (by decide)) ?_
    simp only [↓B0, ↓idx_c, ↓setN_c, ↓idxN_c, ↓reduceIte, B1, List.length_cons, List.length_nil, List.mem_cons, List.not_mem_nil, or_false, true_or, or_true, true_and, and_true, and_self, not_true_eq_false, not_false_eq_true, eq_self, ne_eq, Nat.zero_le, Nat.le_refl, Nat.reduceAdd, Nat.reduceSub, Nat.reduceEqDiff, Nat.reduceLeDiff, Int32.reduceLT, Int32.reduceLE, Int32.reduceAdd, Int32.reduceSub, Int32.reduceMul, Int32.reduceToNatClampNeg, Int32.reduceOfNat, Int32.reduceOfInt, Int64.reduceLT, Int64.reduceAdd, Int64.reduceSub, Int64.reduceMul, String.reduceEq, reduceCtorEq, room_c, room_s, sm]
    refine r0 300 ?_
    simp only [↓S0, ↓B0, ↓idx_c, ↓setN_c, ↓idxN_c, ↓reduceIte, B1, List.length_cons, List.length_nil, List.mem_cons, List.not_mem_nil, or_false, true_or, or_true, true_and, and_true, and_self, not_true_eq_false, not_false_eq_true, eq_self, ne_eq, Nat.zero_le, Nat.le_refl, Nat.reduceAdd, Nat.reduceSub, Nat.reduceEqDiff, Nat.reduceLeDiff, Int32.reduceLT, Int32.reduceLE, Int32.reduceAdd, Int32.reduceSub, Int32.reduceMul, Int32.reduceToNatClampNeg, Int32.reduceOfNat, Int32.reduceOfInt, Int64.reduceLT, Int64.reduceAdd, Int64.reduceSub, Int64.reduceMul, String.reduceEq, reduceCtorEq, room_c, room_s]
  · obtain ⟨h0, c1, t0⟩ := facts_1 i0 (by omega) (by omega)
    refine r0 300 ?_
    simp only [↓S0, ↓B0, ↓idx_c, ↓setN_c, ↓idxN_c, ↓reduceIte, B1, List.length_cons, List.length_nil, List.mem_cons, List.not_mem_nil, or_false, true_or, or_true, true_and, and_true, and_self, not_true_eq_false, not_false_eq_true, eq_self, ne_eq, Nat.zero_le, Nat.le_refl, Nat.reduceAdd, Nat.reduceSub, Nat.reduceEqDiff, Nat.reduceLeDiff, Int32.reduceLT, Int32.reduceLE, Int32.reduceAdd, Int32.reduceSub, Int32.reduceMul, Int32.reduceToNatClampNeg, Int32.reduceOfNat, Int32.reduceOfInt, Int64.reduceLT, Int64.reduceAdd, Int64.reduceSub, Int64.reduceMul, String.reduceEq, reduceCtorEq, room_c, room_s, hv]
    refine kf0_72 (con1_1_1 (nar .byte i2) i0 h0) (r0 300 ?_)
    simp only [↓S0, ↓B0, ↓idx_c, ↓setN_c, ↓idxN_c, ↓reduceIte, B1, List.length_cons, List.length_nil, List.mem_cons, List.not_mem_nil, or_false, true_or, or_true, true_and, and_true, and_self, not_true_eq_false, not_false_eq_true, eq_self, ne_eq, Nat.zero_le, Nat.le_refl, Nat.reduceAdd, Nat.reduceSub, Nat.reduceEqDiff, Nat.reduceLeDiff, Int32.reduceLT, Int32.reduceLE, Int32.reduceAdd, Int32.reduceSub, Int32.reduceMul, Int32.reduceToNatClampNeg, Int32.reduceOfNat, Int32.reduceOfInt, Int64.reduceLT, Int64.reduceAdd, Int64.reduceSub, Int64.reduceMul, String.reduceEq, reduceCtorEq, room_c, room_s, c1]
    refine kf0_179 (con2 _ 0 _ _ _ _ _ rfl (by decide)) ?_
    simp only [↓B0, ↓idx_c, ↓setN_c, ↓idxN_c, ↓reduceIte, B1, List.length_cons, List.length_nil, List.mem_cons, List.not_mem_nil, or_false, true_or, or_true, true_and, and_true, and_self, not_true_eq_false, not_false_eq_true, eq_self, ne_eq, Nat.zero_le, Nat.le_refl, Nat.reduceAdd, Nat.reduceSub, Nat.reduceEqDiff, Nat.reduceLeDiff, Int32.reduceLT, Int32.reduceLE, Int32.reduceAdd, Int32.reduceSub, Int32.reduceMul, Int32.reduceToNatClampNeg, Int32.reduceOfNat, Int32.reduceOfInt, Int64.reduceLT, Int64.reduceAdd, Int64.reduceSub, Int64.reduceMul, String.reduceEq, reduceCtorEq, room_c, room_s, sm]
    refine r0 300 ?_
    simp only [↓S0, ↓B0, ↓idx_c, ↓setN_c, ↓idxN_c, ↓reduceIte, B1, List.length_cons, List.length_nil, List.mem_cons, List.not_mem_nil, or_false, true_or, or_true, true_and, and_true, and_self, not_true_eq_false, not_false_eq_true, eq_self, ne_eq, Nat.zero_le, Nat.le_refl, Nat.reduceAdd, Nat.reduceSub, Nat.reduceEqDiff, Nat.reduceLeDiff, Int32.reduceLT, Int32.reduceLE, Int32.reduceAdd, Int32.reduceSub, Int32.reduceMul, Int32.reduceToNatClampNeg, Int32.reduceOfNat, Int32.reduceOfInt, Int64.reduceLT, Int64.reduceAdd, Int64.reduceSub, Int64.reduceMul, String.reduceEq, reduceCtorEq, room_c, room_s]
    refine kf0_207 (con2 _ 1 _ _ _ _ _ rfl (by decide)) ?_
    simp only [↓B0, ↓idx_c, ↓setN_c, ↓idxN_c, ↓reduceIte, B1, List.length_cons, List.length_nil, List.mem_cons, List.not_mem_nil, or_false, true_or, or_true, true_and, and_true, and_self, not_true_eq_false, not_false_eq_true, eq_self, ne_eq, Nat.zero_le, Nat.le_refl, Nat.reduceAdd, Nat.reduceSub, Nat.reduceEqDiff, Nat.reduceLeDiff, Int32.reduceLT, Int32.reduceLE, Int32.reduceAdd, Int32.reduceSub, Int32.reduceMul, Int32.reduceToNatClampNeg, Int32.reduceOfNat, Int32.reduceOfInt, Int64.reduceLT, Int64.reduceAdd, Int64.reduceSub, Int64.reduceMul, String.reduceEq, reduceCtorEq, room_c, room_s, sm, t0]
    refine r0 300 ?_
    simp only [↓S0, ↓B0, ↓idx_c, ↓setN_c, ↓idxN_c, ↓reduceIte, B1, List.length_cons, List.length_nil, List.mem_cons, List.not_mem_nil, or_false, true_or, or_true, true_and, and_true, and_self, not_true_eq_false, not_false_eq_true, eq_self, ne_eq, Nat.zero_le, Nat.le_refl, Nat.reduceAdd, Nat.reduceSub, Nat.reduceEqDiff, Nat.reduceLeDiff, Int32.reduceLT, Int32.reduceLE, Int32.reduceAdd, Int32.reduceSub, Int32.reduceMul, Int32.reduceToNatClampNeg, Int32.reduceOfNat, Int32.reduceOfInt, Int64.reduceLT, Int64.reduceAdd, Int64.reduceSub, Int64.reduceMul, String.reduceEq, reduceCtorEq, room_c, room_s]
    refine kf0_235 (con2 _ 2 _ _ _ _ _ rfl (by decide)) ?_
    simp only [↓B0, ↓idx_c, ↓setN_c, ↓idxN_c, ↓reduceIte, B1, List.length_cons, List.length_nil, List.mem_cons, List.not_mem_nil, or_false, true_or, or_true, true_and, and_true, and_self, not_true_eq_false, not_false_eq_true, eq_self, ne_eq, Nat.zero_le, Nat.le_refl, Nat.reduceAdd, Nat.reduceSub, Nat.reduceEqDiff, Nat.reduceLeDiff, Int32.reduceLT, Int32.reduceLE, Int32.reduceAdd, Int32.reduceSub, Int32.reduceMul, Int32.reduceToNatClampNeg, Int32.reduceOfNat, Int32.reduceOfInt, Int64.reduceLT, Int64.reduceAdd, Int64.reduceSub, Int64.reduceMul, String.reduceEq, reduceCtorEq, room_c, room_s, sm]
    refine r0 300 ?_
    simp only [↓S0, ↓B0, ↓idx_c, ↓setN_c, ↓idxN_c, ↓reduceIte, B1, List.length_cons, List.length_nil, List.mem_cons, List.not_mem_nil, or_false, true_or, or_true, true_and, and_true, and_self, not_true_eq_false, not_false_eq_true, eq_self, ne_eq, Nat.zero_le, Nat.le_refl, Nat.reduceAdd, Nat.reduceSub, Nat.reduceEqDiff, Nat.reduceLeDiff, Int32.reduceLT, Int32.reduceLE, Int32.reduceAdd, Int32.reduceSub, Int32.reduceMul, Int32.reduceToNatClampNeg, Int32.reduceOfNat, Int32.reduceOfInt, Int64.reduceLT, Int64.reduceAdd, Int64.reduceSub, Int64.reduceMul, String.reduceEq, reduceCtorEq, room_c, room_s]
    refine kf0_263 (con2 _ 3 _ _ _ _ _ rfl (by decide)) ?_
    simp only [↓B0, ↓idx_c, ↓setN_c, ↓idxN_c, ↓reduceIte, B1, List.length_cons, List.length_nil, List.mem_cons, List.not_mem_nil, or_false, true_or, or_true, true_and, and_true, and_self, not_true_eq_false, not_false_eq_true, eq_self, ne_eq, Nat.zero_le, Nat.le_refl, Nat.reduceAdd, Nat.reduceSub, Nat.reduceEqDiff, Nat.reduceLeDiff, Int32.reduceLT, Int32.reduceLE, Int32.reduceAdd, Int32.reduceSub, Int32.reduceMul, Int32.reduceToNatClampNeg, Int32.reduceOfNat, Int32.reduceOfInt, Int64.reduceLT, Int64.reduceAdd, Int64.reduceSub, Int64.reduceMul, String.reduceEq, reduceCtorEq, room_c, room_s, sm]
    refine r0 300 ?_
    simp only [↓S0, ↓B0, ↓idx_c, ↓setN_c, ↓idxN_c, ↓reduceIte, B1, List.length_cons, List.length_nil, List.mem_cons, List.not_mem_nil, or_false, true_or, or_true, true_and, and_true, and_self, not_true_eq_false, not_false_eq_true, eq_self, ne_eq, Nat.zero_le, Nat.le_refl, Nat.reduceAdd, Nat.reduceSub, Nat.reduceEqDiff, Nat.reduceLeDiff, Int32.reduceLT, Int32.reduceLE, Int32.reduceAdd, Int32.reduceSub, Int32.reduceMul, Int32.reduceToNatClampNeg, Int32.reduceOfNat, Int32.reduceOfInt, Int64.reduceLT, Int64.reduceAdd, Int64.reduceSub, Int64.reduceMul, String.reduceEq, reduceCtorEq, room_c, room_s]
    refine kf0_291 (con2 _ 4 _ _ _ _ _ rfl (by decide)) ?_
    simp only [↓B0, ↓idx_c, ↓setN_c, ↓idxN_c, ↓reduceIte, B1, List.length_cons, List.length_nil, List.mem_cons, List.not_mem_nil, or_false, true_or, or_true, true_and, and_true, and_self, not_true_eq_false, not_false_eq_true, eq_self, ne_eq, Nat.zero_le, Nat.le_refl, Nat.reduceAdd, Nat.reduceSub, Nat.reduceEqDiff, Nat.reduceLeDiff, Int32.reduceLT, Int32.reduceLE, Int32.reduceAdd, Int32.reduceSub, Int32.reduceMul, Int32.reduceToNatClampNeg, Int32.reduceOfNat, Int32.reduceOfInt, Int64.reduceLT, Int64.reduceAdd, Int64.reduceSub, Int64.reduceMul, String.reduceEq, reduceCtorEq, room_c, room_s, sm]
    refine r0 300 ?_
    simp only [↓S0, ↓B0, ↓idx_c, ↓setN_c, ↓idxN_c, ↓reduceIte, B1, List.length_cons, List.length_nil, List.mem_cons, List.not_mem_nil, or_false, true_or, or_true, true_and, and_true, and_self, not_true_eq_false, not_false_eq_true, eq_self, ne_eq, Nat.zero_le, Nat.le_refl, Nat.reduceAdd, Nat.reduceSub, Nat.reduceEqDiff, Nat.reduceLeDiff, Int32.reduceLT, Int32.reduceLE, Int32.reduceAdd, Int32.reduceSub, Int32.reduceMul, Int32.reduceToNatClampNeg, Int32.reduceOfNat, Int32.reduceOfInt, Int64.reduceLT, Int64.reduceAdd, Int64.reduceSub, Int64.reduceMul, String.reduceEq, reduceCtorEq, room_c, room_s]
    refine kf0_319 (con2 _ 5 _ _ _ _ _ rfl (by decide)) ?_
    simp only [↓B0, ↓idx_c, ↓setN_c, ↓idxN_c, ↓reduceIte, B1, List.length_cons, List.length_nil, List.mem_cons, List.not_mem_nil, or_false, true_or, or_true, true_and, and_true, and_self, not_true_eq_false, not_false_eq_true, eq_self, ne_eq, Nat.zero_le, Nat.le_refl, Nat.reduceAdd, Nat.reduceSub, Nat.reduceEqDiff, Nat.reduceLeDiff, Int32.reduceLT, Int32.reduceLE, Int32.reduceAdd, Int32.reduceSub, Int32.reduceMul, Int32.reduceToNatClampNeg, Int32.reduceOfNat, Int32.reduceOfInt, Int64.reduceLT, Int64.reduceAdd, Int64.reduceSub, Int64.reduceMul, String.reduceEq, reduceCtorEq, room_c, room_s, sm]
    refine r0 300 ?_
    simp only [↓S0, ↓B0, ↓idx_c, ↓setN_c, ↓idxN_c, ↓reduceIte, B1, List.length_cons, List.length_nil, List.mem_cons, List.not_mem_nil, or_false, true_or, or_true, true_and, and_true, and_self, not_true_eq_false, not_false_eq_true, eq_self, ne_eq, Nat.zero_le, Nat.le_refl, Nat.reduceAdd, Nat.reduceSub, Nat.reduceEqDiff, Nat.reduceLeDiff, Int32.reduceLT, Int32.reduceLE, Int32.reduceAdd, Int32.reduceSub, Int32.reduceMul, Int32.reduceToNatClampNeg, Int32.reduceOfNat, Int32.reduceOfInt, Int64.reduceLT, Int64.reduceAdd, Int64.reduceSub, Int64.reduceMul, String.reduceEq, reduceCtorEq, room_c, room_s]
    refine kf0_348 (con2 _ 6 _ _ _ _ _ rfl (by decide)) ?_
    simp only [↓B0, ↓idx_c, ↓setN_c, ↓idxN_c, ↓reduceIte, B1, List.length_cons, List.length_nil, List.mem_cons, List.not_mem_nil, or_false, true_or, or_true, true_and, and_true, and_self, not_true_eq_false, not_false_eq_true, eq_self, ne_eq, Nat.zero_le, Nat.le_refl, Nat.reduceAdd, Nat.reduceSub, Nat.reduceEqDiff, Nat.reduceLeDiff, Int32.reduceLT, Int32.reduceLE, Int32.reduceAdd, Int32.reduceSub, Int32.reduceMul, Int32.reduceToNatClampNeg, Int32.reduceOfNat, Int32.reduceOfInt, Int64.reduceLT, Int64.reduceAdd, Int64.reduceSub, Int64.reduceMul, String.reduceEq, reduceCtorEq, room_c, room_s, sm]
    refine r0 300 ?_
    simp only [↓S0, ↓B0, ↓idx_c, ↓setN_c, ↓idxN_c, ↓reduceIte, B1, List.length_cons, List.length_nil, List.mem_cons, List.not_mem_nil, or_false, true_or, or_true, true_and, and_true, and_self, not_true_eq_false, not_false_eq_true, eq_self, ne_eq, Nat.zero_le, Nat.le_refl, Nat.reduceAdd, Nat.reduceSub, Nat.reduceEqDiff, Nat.reduceLeDiff, Int32.reduceLT, Int32.reduceLE, Int32.reduceAdd, Int32.reduceSub, Int32.reduceMul, Int32.reduceToNatClampNeg, Int32.reduceOfNat, Int32.reduceOfInt, Int64.reduceLT, Int64.reduceAdd, Int64.reduceSub, Int64.reduceMul, String.reduceEq, reduceCtorEq, room_c, room_s]
    refine kf0_377 (con2 _ 7 _ _ _ _ _ rfl (by decide)) ?_
    simp only [↓B0, ↓idx_c, ↓setN_c, ↓idxN_c, ↓reduceIte, B1, List.length_cons, List.length_nil, List.mem_cons, List.not_mem_nil, or_false, true_or, or_true, true_and, and_true, and_self, not_true_eq_false, not_false_eq_true, eq_self, ne_eq, Nat.zero_le, Nat.le_refl, Nat.reduceAdd, Nat.reduceSub, Nat.reduceEqDiff, Nat.reduceLeDiff, Int32.reduceLT, Int32.reduceLE, Int32.reduceAdd, Int32.reduceSub, Int32.reduceMul, Int32.reduceToNatClampNeg, Int32.reduceOfNat, Int32.reduceOfInt, Int64.reduceLT, Int64.reduceAdd, Int64.reduceSub, Int64.reduceMul, String.reduceEq, reduceCtorEq, room_c, room_s, sm]
    refine r0 300 ?_
    simp only [↓S0, ↓B0, ↓idx_c, ↓setN_c, ↓idxN_c, ↓reduceIte, B1, List.length_cons, List.length_nil, List.mem_cons, List.not_mem_nil, or_false, true_or, or_true, true_and, and_true, and_self, not_true_eq_false, not_false_eq_true, eq_self, ne_eq, Nat.zero_le, Nat.le_refl, Nat.reduceAdd, Nat.reduceSub, Nat.reduceEqDiff, Nat.reduceLeDiff, Int32.reduceLT, Int32.reduceLE, Int32.reduceAdd, Int32.reduceSub, Int32.reduceMul, Int32.reduceToNatClampNeg, Int32.reduceOfNat, Int32.reduceOfInt, Int64.reduceLT, Int64.reduceAdd, Int64.reduceSub, Int64.reduceMul, String.reduceEq, reduceCtorEq, room_c, room_s]
    refine kf0_406 (con2 _ 8 _ _ _ _ _ rfl (by decide)) ?_
    simp only [↓B0, ↓idx_c, ↓setN_c, ↓idxN_c, ↓reduceIte, B1, List.length_cons, List.length_nil, List.mem_cons, List.not_mem_nil, or_false, true_or, or_true, true_and, and_true, and_self, not_true_eq_false, not_false_eq_true, eq_self, ne_eq, Nat.zero_le, Nat.le_refl, Nat.reduceAdd, Nat.reduceSub, Nat.reduceEqDiff, Nat.reduceLeDiff, Int32.reduceLT, Int32.reduceLE, Int32.reduceAdd, Int32.reduceSub, Int32.reduceMul, Int32.reduceToNatClampNeg, Int32.reduceOfNat, Int32.reduceOfInt, Int64.reduceLT, Int64.reduceAdd, Int64.reduceSub, Int64.reduceMul, String.reduceEq, reduceCtorEq, room_c, room_s, sm]
    refine r0 300 ?_
    simp only [↓S0, ↓B0, ↓idx_c, ↓setN_c, ↓idxN_c, ↓reduceIte, B1, List.length_cons, List.length_nil, List.mem_cons, List.not_mem_nil, or_false, true_or, or_true, true_and, and_true, and_self, not_true_eq_false, not_false_eq_true, eq_self, ne_eq, Nat.zero_le, Nat.le_refl, Nat.reduceAdd, Nat.reduceSub, Nat.reduceEqDiff, Nat.reduceLeDiff, Int32.reduceLT, Int32.reduceLE, Int32.reduceAdd, Int32.reduceSub, Int32.reduceMul, Int32.reduceToNatClampNeg, Int32.reduceOfNat, Int32.reduceOfInt, Int64.reduceLT, Int64.reduceAdd, Int64.reduceSub, Int64.reduceMul, String.reduceEq, reduceCtorEq, room_c, room_s]
    refine kf0_435 (con2 _ 9 _ _ _ _ _ rfl (by decide)) ?_
    simp only [↓B0, ↓idx_c, ↓setN_c, ↓idxN_c, ↓reduceIte, B1, List.length_cons, List.length_nil, List.mem_cons, List.not_mem_nil, or_false, true_or, or_true, true_and, and_true, and_self, not_true_eq_false, not_false_eq_true, eq_self, ne_eq, Nat.zero_le, Nat.le_refl, Nat.reduceAdd, Nat.reduceSub, Nat.reduceEqDiff, Nat.reduceLeDiff, Int32.reduceLT, Int32.reduceLE, Int32.reduceAdd, Int32.reduceSub, Int32.reduceMul, Int32.reduceToNatClampNeg, Int32.reduceOfNat, Int32.reduceOfInt, Int64.reduceLT, Int64.reduceAdd, Int64.reduceSub, Int64.reduceMul, String.reduceEq, reduceCtorEq, room_c, room_s, sm]
    refine r0 300 ?_
    simp only [↓S0, ↓B0, ↓idx_c, ↓setN_c, ↓idxN_c, ↓reduceIte, B1, List.length_cons, List.length_nil, List.mem_cons, List.not_mem_nil, or_false, true_or, or_true, true_and, and_true, and_self, not_true_eq_false, not_false_eq_true, eq_self, ne_eq, Nat.zero_le, Nat.le_refl, Nat.reduceAdd, Nat.reduceSub, Nat.reduceEqDiff, Nat.reduceLeDiff, Int32.reduceLT, Int32.reduceLE, Int32.reduceAdd, Int32.reduceSub, Int32.reduceMul, Int32.reduceToNatClampNeg, Int32.reduceOfNat, Int32.reduceOfInt, Int64.reduceLT, Int64.reduceAdd, Int64.reduceSub, Int64.reduceMul, String.reduceEq, reduceCtorEq, room_c, room_s]
  · obtain ⟨h0, h1, c1, c2, t0, t1⟩ := facts_2 i0 (by omega) (by omega)
    refine r0 300 ?_
    simp only [↓S0, ↓B0, ↓idx_c, ↓setN_c, ↓idxN_c, ↓reduceIte, B1, List.length_cons, List.length_nil, List.mem_cons, List.not_mem_nil, or_false, true_or, or_true, true_and, and_true, and_self, not_true_eq_false, not_false_eq_true, eq_self, ne_eq, Nat.zero_le, Nat.le_refl, Nat.reduceAdd, Nat.reduceSub, Nat.reduceEqDiff, Nat.reduceLeDiff, Int32.reduceLT, Int32.reduceLE, Int32.reduceAdd, Int32.reduceSub, Int32.reduceMul, Int32.reduceToNatClampNeg, Int32.reduceOfNat, Int32.reduceOfInt, Int64.reduceLT, Int64.reduceAdd, Int64.reduceSub, Int64.reduceMul, String.reduceEq, reduceCtorEq, room_c, room_s, hv]
    refine kf0_72 (con1_1_2 (nar .byte i2) i0 h0 h1) (r0 300 ?_)
    simp only [↓S0, ↓B0, ↓idx_c, ↓setN_c, ↓idxN_c, ↓reduceIte, B1, List.length_cons, List.length_nil, List.mem_cons, List.not_mem_nil, or_false, true_or, or_true, true_and, and_true, and_self, not_true_eq_false, not_false_eq_true, eq_self, ne_eq, Nat.zero_le, Nat.le_refl, Nat.reduceAdd, Nat.reduceSub, Nat.reduceEqDiff, Nat.reduceLeDiff, Int32.reduceLT, Int32.reduceLE, Int32.reduceAdd, Int32.reduceSub, Int32.reduceMul, Int32.reduceToNatClampNeg, Int32.reduceOfNat, Int32.reduceOfInt, Int64.reduceLT, Int64.reduceAdd, Int64.reduceSub, Int64.reduceMul, String.reduceEq, reduceCtorEq, room_c, room_s, c1, c2]
    refine kf0_179 (con2 _ 0 _ _ _ _ _ rfl (by decide)) ?_
    simp only [↓B0, ↓idx_c, ↓setN_c, ↓idxN_c, ↓reduceIte, B1, List.length_cons, List.length_nil, List.mem_cons, List.not_mem_nil, or_false, true_or, or_true, true_and, and_true, and_self, not_true_eq_false, not_false_eq_true, eq_self, ne_eq, Nat.zero_le, Nat.le_refl, Nat.reduceAdd, Nat.reduceSub, Nat.reduceEqDiff, Nat.reduceLeDiff, Int32.reduceLT, Int32.reduceLE, Int32.reduceAdd, Int32.reduceSub, Int32.reduceMul, Int32.reduceToNatClampNeg, Int32.reduceOfNat, Int32.reduceOfInt, Int64.reduceLT, Int64.reduceAdd, Int64.reduceSub, Int64.reduceMul, String.reduceEq, reduceCtorEq, room_c, room_s, sm]
    refine r0 300 ?_
    simp only [↓S0, ↓B0, ↓idx_c, ↓setN_c, ↓idxN_c, ↓reduceIte, B1, List.length_cons, List.length_nil, List.mem_cons, List.not_mem_nil, or_false, true_or, or_true, true_and, and_true, and_self, not_true_eq_false, not_false_eq_true, eq_self, ne_eq, Nat.zero_le, Nat.le_refl, Nat.reduceAdd, Nat.reduceSub, Nat.reduceEqDiff, Nat.reduceLeDiff, Int32.reduceLT, Int32.reduceLE, Int32.reduceAdd, Int32.reduceSub, Int32.reduceMul, Int32.reduceToNatClampNeg, Int32.reduceOfNat, Int32.reduceOfInt, Int64.reduceLT, Int64.reduceAdd, Int64.reduceSub, Int64.reduceMul, String.reduceEq, reduceCtorEq, room_c, room_s]
    refine kf0_207 (con2 _ 1 _ _ _ _ _ rfl (by decide)) ?_
    simp only [↓B0, ↓idx_c, ↓setN_c, ↓idxN_c, ↓reduceIte, B1, List.length_cons, List.length_nil, List.mem_cons, List.not_mem_nil, or_false, true_or, or_true, true_and, and_true, and_self, not_true_eq_false, not_false_eq_true, eq_self, ne_eq, Nat.zero_le, Nat.le_refl, Nat.reduceAdd, Nat.reduceSub, Nat.reduceEqDiff, Nat.reduceLeDiff, Int32.reduceLT, Int32.reduceLE, Int32.reduceAdd, Int32.reduceSub, Int32.reduceMul, Int32.reduceToNatClampNeg, Int32.reduceOfNat, Int32.reduceOfInt, Int64.reduceLT, Int64.reduceAdd, Int64.reduceSub, Int64.reduceMul, String.reduceEq, reduceCtorEq, room_c, room_s, sm, t0]
    refine r0 300 ?_
    simp only [↓S0, ↓B0, ↓idx_c, ↓setN_c, ↓idxN_c, ↓reduceIte, B1, List.length_cons, List.length_nil, List.mem_cons, List.not_mem_nil, or_false, true_or, or_true, true_and, and_true, and_self, not_true_eq_false, not_false_eq_true, eq_self, ne_eq, Nat.zero_le, Nat.le_refl, Nat.reduceAdd, Nat.reduceSub, Nat.reduceEqDiff, Nat.reduceLeDiff, Int32.reduceLT, Int32.reduceLE, Int32.reduceAdd, Int32.reduceSub, Int32.reduceMul, Int32.reduceToNatClampNeg, Int32.reduceOfNat, Int32.reduceOfInt, Int64.reduceLT, Int64.reduceAdd, Int64.reduceSub, Int64.reduceMul, String.reduceEq, reduceCtorEq, room_c, room_s]
    refine kf0_235 (con2 _ 2 _ _ _ _ _ rfl (by decide)) ?_
    simp only [↓B0, ↓idx_c, ↓setN_c, ↓idxN_c, ↓reduceIte, B1, List.length_cons, List.length_nil, List.mem_cons, List.not_mem_nil, or_false, true_or, or_true, true_and, and_true, and_self, not_true_eq_false, not_false_eq_true, eq_self, ne_eq, Nat.zero_le, Nat.le_refl, Nat.reduceAdd, Nat.reduceSub, Nat.reduceEqDiff, Nat.reduceLeDiff, Int32.reduceLT, Int32.reduceLE, Int32.reduceAdd, Int32.reduceSub, Int32.reduceMul, Int32.reduceToNatClampNeg, Int32.reduceOfNat, Int32.reduceOfInt, Int64.reduceLT, Int64.reduceAdd, Int64.reduceSub, Int64.reduceMul, String.reduceEq, reduceCtorEq, room_c, room_s, sm, t1]
    refine r0 300 ?_
    simp only [↓S0, ↓B0, ↓idx_c, ↓setN_c, ↓idxN_c, ↓reduceIte, B1, List.length_cons, List.length_nil, List.mem_cons, List.not_mem_nil, or_false, true_or, or_true, true_and, and_true, and_self, not_true_eq_false, not_false_eq_true, eq_self, ne_eq, Nat.zero_le, Nat.le_refl, Nat.reduceAdd, Nat.reduceSub, Nat.reduceEqDiff, Nat.reduceLeDiff, Int32.reduceLT, Int32.reduceLE, Int32.reduceAdd, Int32.reduceSub, Int32.reduceMul, Int32.reduceToNatClampNeg, Int32.reduceOfNat, Int32.reduceOfInt, Int64.reduceLT, Int64.reduceAdd, Int64.reduceSub, Int64.reduceMul, String.reduceEq, reduceCtorEq, room_c, room_s]
    refine kf0_263 (con2 _ 3 _ _ _ _ _ rfl (by decide)) ?_
    simp only [↓B0, ↓idx_c, ↓setN_c, ↓idxN_c, ↓reduceIte, B1, List.length_cons, List.length_nil, List.mem_cons, List.not_mem_nil, or_false, true_or, or_true, true_and, and_true, and_self, not_true_eq_false, not_false_eq_true, eq_self, ne_eq, Nat.zero_le, Nat.le_refl, Nat.reduceAdd, Nat.reduceSub, Nat.reduceEqDiff, Nat.reduceLeDiff, Int32.reduceLT, Int32.reduceLE, Int32.reduceAdd, Int32.reduceSub, Int32.reduceMul, Int32.reduceToNatClampNeg, Int32.reduceOfNat, Int32.reduceOfInt, Int64.reduceLT, Int64.reduceAdd, Int64.reduceSub, Int64.reduceMul, String.reduceEq, reduceCtorEq, room_c, room_s, sm]
    refine r0 300 ?_
    simp only [↓S0, ↓B0, ↓idx_c, ↓setN_c, ↓idxN_c, ↓reduceIte, B1, List.length_cons, List.length_nil, List.mem_cons, List.not_mem_nil, or_false, true_or, or_true, true_and, and_true, and_self, not_true_eq_false, not_false_eq_true, eq_self, ne_eq, Nat.zero_le, Nat.le_refl, Nat.reduceAdd, Nat.reduceSub, Nat.reduceEqDiff, Nat.reduceLeDiff, Int32.reduceLT, Int32.reduceLE, Int32.reduceAdd, Int32.reduceSub, Int32.reduceMul, Int32.reduceToNatClampNeg, Int32.reduceOfNat, Int32.reduceOfInt, Int64.reduceLT, Int64.reduceAdd, Int64.reduceSub, Int64.reduceMul, String.reduceEq, reduceCtorEq, room_c, room_s]
    refine kf0_291 (con2 _ 4 _ _ _ _ _ rfl (by decide)) ?_
    simp only [↓B0, ↓idx_c, ↓setN_c, ↓idxN_c, ↓reduceIte, B1, List.length_cons, List.length_nil, List.mem_cons, List.not_mem_nil, or_false, true_or, or_true, true_and, and_true, and_self, not_true_eq_false, not_false_eq_true, eq_self, ne_eq, Nat.zero_le, Nat.le_refl, Nat.reduceAdd, Nat.reduceSub, Nat.reduceEqDiff, Nat.reduceLeDiff, Int32.reduceLT, Int32.reduceLE, Int32.reduceAdd, Int32.reduceSub, Int32.reduceMul, Int32.reduceToNatClampNeg, Int32.reduceOfNat, Int32.reduceOfInt, Int64.reduceLT, Int64.reduceAdd, Int64.reduceSub, Int64.reduceMul, String.reduceEq, reduceCtorEq, room_c, room_s, sm]
    refine r0 300 ?_
    simp only [↓S0, ↓B0, ↓idx_c, ↓setN_c, ↓idxN_c, ↓reduceIte, B1, List.length_cons, List.length_nil, List.mem_cons, List.not_mem_nil, or_false, true_or, or_true, true_and, and_true, and_self, not_true_eq_false, not_false_eq_true, eq_self, ne_eq, Nat.zero_le, Nat.le_refl, Nat.reduceAdd, Nat.reduceSub, Nat.reduceEqDiff, Nat.reduceLeDiff, Int32.reduceLT, Int32.reduceLE, Int32.reduceAdd, Int32.reduceSub, Int32.reduceMul, Int32.reduceToNatClampNeg, Int32.reduceOfNat, Int32.reduceOfInt, Int64.reduceLT, Int64.reduceAdd, Int64.reduceSub, Int64.reduceMul, String.reduceEq, reduceCtorEq, room_c, room_s]
    refine kf0_319 (con2 _ 5 _ _ _ _ _ rfl (by decide)) ?_
    simp only [↓B0, ↓idx_c, ↓setN_c, ↓idxN_c, ↓reduceIte, B1, List.length_cons, List.length_nil, List.mem_cons, List.not_mem_nil, or_false, true_or, or_true, true_and, and_true, and_self, not_true_eq_false, not_false_eq_true, eq_self, ne_eq, Nat.zero_le, Nat.le_refl, Nat.reduceAdd, Nat.reduceSub, Nat.reduceEqDiff, Nat.reduceLeDiff, Int32.reduceLT, Int32.reduceLE, Int32.reduceAdd, Int32.reduceSub, Int32.reduceMul, Int32.reduceToNatClampNeg, Int32.reduceOfNat, Int32.reduceOfInt, Int64.reduceLT, Int64.reduceAdd, Int64.reduceSub, Int64.reduceMul, String.reduceEq, reduceCtorEq, room_c, room_s, sm]
    refine r0 300 ?_
    simp only [↓S0, ↓B0, ↓idx_c, ↓setN_c, ↓idxN_c, ↓reduceIte, B1, List.length_cons, List.length_nil, List.mem_cons, List.not_mem_nil, or_false, true_or, or_true, true_and, and_true, and_self, not_true_eq_false, not_false_eq_true, eq_self, ne_eq, Nat.zero_le, Nat.le_refl, Nat.reduceAdd, Nat.reduceSub, Nat.reduceEqDiff, Nat.reduceLeDiff, Int32.reduceLT, Int32.reduceLE, Int32.reduceAdd, Int32.reduceSub, Int32.reduceMul, Int32.reduceToNatClampNeg, Int32.reduceOfNat, Int32.reduceOfInt, Int64.reduceLT, Int64.reduceAdd, Int64.reduceSub, Int64.reduceMul, String.reduceEq, reduceCtorEq, room_c, room_s]
    refine kf0_348 (con2 _ 6 _ _ _ _ _ rfl (by decide)) ?_
    simp only [↓B0, ↓idx_c, ↓setN_c, ↓idxN_c, ↓reduceIte, B1, List.length_cons, List.length_nil, List.mem_cons, List.not_mem_nil, or_false, true_or, or_true, true_and, and_true, and_self, not_true_eq_false, not_false_eq_true, eq_self, ne_eq, Nat.zero_le, Nat.le_refl, Nat.reduceAdd, Nat.reduceSub, Nat.reduceEqDiff, Nat.reduceLeDiff, Int32.reduceLT, Int32.reduceLE, Int32.reduceAdd, Int32.reduceSub, Int32.reduceMul, Int32.reduceToNatClampNeg, Int32.reduceOfNat, Int32.reduceOfInt, Int64.reduceLT, Int64.reduceAdd, Int64.reduceSub, Int64.reduceMul, String.reduceEq, reduceCtorEq, room_c, room_s, sm]
    refine r0 300 ?_
    simp only [↓S0, ↓B0, ↓idx_c, ↓setN_c, ↓idxN_c, ↓reduceIte, B1, List.length_cons, List.length_nil, List.mem_cons, List.not_mem_nil, or_false, true_or, or_true, true_and, and_true, and_self, not_true_eq_false, not_false_eq_true, eq_self, ne_eq, Nat.zero_le, Nat.le_refl, Nat.reduceAdd, Nat.reduceSub, Nat.reduceEqDiff, Nat.reduceLeDiff, Int32.reduceLT, Int32.reduceLE, Int32.reduceAdd, Int32.reduceSub, Int32.reduceMul, Int32.reduceToNatClampNeg, Int32.reduceOfNat, Int32.reduceOfInt, Int64.reduceLT, Int64.reduceAdd, Int64.reduceSub, Int64.reduceMul, String.reduceEq, reduceCtorEq, room_c, room_s]
    refine kf0_377 (con2 _ 7 _ _ _ _ _ rfl (by decide)) ?_
    simp only [↓B0, ↓idx_c, ↓setN_c, ↓idxN_c, ↓reduceIte, B1, List.length_cons, List.length_nil, List.mem_cons, List.not_mem_nil, or_false, true_or, or_true, true_and, and_true, and_self, not_true_eq_false, not_false_eq_true, eq_self, ne_eq, Nat.zero_le, Nat.le_refl, Nat.reduceAdd, Nat.reduceSub, Nat.reduceEqDiff, Nat.reduceLeDiff, Int32.reduceLT, Int32.reduceLE, Int32.reduceAdd, Int32.reduceSub, Int32.reduceMul, Int32.reduceToNatClampNeg, Int32.reduceOfNat, Int32.reduceOfInt, Int64.reduceLT, Int64.reduceAdd, Int64.reduceSub, Int64.reduceMul, String.reduceEq, reduceCtorEq, room_c, room_s, sm]
    refine r0 300 ?_
    simp only [↓S0, ↓B0, ↓idx_c, ↓setN_c, ↓idxN_c, ↓reduceIte, B1, List.length_cons, List.length_nil, List.mem_cons, List.not_mem_nil, or_false, true_or, or_true, true_and, and_true, and_self, not_true_eq_false, not_false_eq_true, eq_self, ne_eq, Nat.zero_le, Nat.le_refl, Nat.reduceAdd, Nat.reduceSub, Nat.reduceEqDiff, Nat.reduceLeDiff, Int32.reduceLT, Int32.reduceLE, Int32.reduceAdd, Int32.reduceSub, Int32.reduceMul, Int32.reduceToNatClampNeg, Int32.reduceOfNat, Int32.reduceOfInt, Int64.reduceLT, Int64.reduceAdd, Int64.reduceSub, Int64.reduceMul, String.reduceEq, reduceCtorEq, room_c, room_s]
    refine kf0_406 (con2 _ 8 _ _ _ _ _ rfl (by decide)) ?_
    simp only [↓B0, ↓idx_c, ↓setN_c, ↓idxN_c, ↓reduceIte, B1, List.length_cons, List.length_nil, List.mem_cons, List.not_mem_nil, or_false, true_or, or_true, true_and, and_true, and_self, not_true_eq_false, not_false_eq_true, eq_self, ne_eq, Nat.zero_le, Nat.le_refl, Nat.reduceAdd, Nat.reduceSub, Nat.reduceEqDiff, Nat.reduceLeDiff, Int32.reduceLT, Int32.reduceLE, Int32.reduceAdd, Int32.reduceSub, Int32.reduceMul, Int32.reduceToNatClampNeg, Int32.reduceOfNat, Int32.reduceOfInt, Int64.reduceLT, Int64.reduceAdd, Int64.reduceSub, Int64.reduceMul, String.reduceEq, reduceCtorEq, room_c, room_s, sm]
    refine r0 300 ?_
    simp only [↓S0, ↓B0, ↓idx_c, ↓setN_c, ↓idxN_c, ↓reduceIte, B1, List.length_cons, List.length_nil, List.mem_cons, List.not_mem_nil, or_false, true_or, or_true, true_and, and_true, and_self, not_true_eq_false, not_false_eq_true, eq_self, ne_eq, Nat.zero_le, Nat.le_refl, Nat.reduceAdd, Nat.reduceSub, Nat.reduceEqDiff, Nat.reduceLeDiff, Int32.reduceLT, Int32.reduceLE, Int32.reduceAdd, Int32.reduceSub, Int32.reduceMul, Int32.reduceToNatClampNeg, Int32.reduceOfNat, Int32.reduceOfInt, Int64.reduceLT, Int64.reduceAdd, Int64.reduceSub, Int64.reduceMul, String.reduceEq, reduceCtorEq, room_c, room_s]
    refine kf0_435 (con2 _ 9 _ _ _ _ _ rfl (by decide)) ?_
    simp only [↓B0, ↓idx_c, ↓setN_c, ↓idxN_c, ↓reduceIte, B1, List.length_cons, List.length_nil, List.mem_cons, List.not_mem_nil, or_false, true_or, or_true, true_and, and_true, and_self, not_true_eq_false, not_false_eq_true, eq_self, ne_eq, Nat.zero_le, Nat.le_refl, Nat.reduceAdd, Nat.reduceSub, Nat.reduceEqDiff, Nat.reduceLeDiff, Int32.reduceLT, Int32.reduceLE, Int32.reduceAdd, Int32.reduceSub, Int32.reduceMul, Int32.reduceToNatClampNeg, Int32.reduceOfNat, Int32.reduceOfInt, Int64.reduceLT, Int64.reduceAdd, Int64.reduceSub, Int64.reduceMul, String.reduceEq, reduceCtorEq, room_c, room_s, sm]
    refine r0 300 ?_
    simp only [↓S0, ↓B0, ↓idx_c, ↓setN_c, ↓idxN_c, ↓reduceIte, B1, List.length_cons, List.length_nil, List.mem_cons, List.not_mem_nil, or_false, true_or, or_true, true_and, and_true, and_self, not_true_eq_false, not_false_eq_true, eq_self, ne_eq, Nat.zero_le, Nat.le_refl, Nat.reduceAdd, Nat.reduceSub, Nat.reduceEqDiff, Nat.reduceLeDiff, Int32.reduceLT, Int32.reduceLE, Int32.reduceAdd, Int32.reduceSub, Int32.reduceMul, Int32.reduceToNatClampNeg, Int32.reduceOfNat, Int32.reduceOfInt, Int64.reduceLT, Int64.reduceAdd, Int64.reduceSub, Int64.reduceMul, String.reduceEq, reduceCtorEq, room_c, room_s]
  · obtain ⟨h0, h1, h2, c1, c2, c3, t0, t1, t2⟩ := facts_3 i0 (by omega) (by omega)
    refine r0 300 ?_
    simp only [↓S0, ↓B0, ↓idx_c, ↓setN_c, ↓idxN_c, ↓reduceIte, B1, List.length_cons, List.length_nil, List.mem_cons, List.not_mem_nil, or_false, true_or, or_true, true_and, and_true, and_self, not_true_eq_false, not_false_eq_true, eq_self, ne_eq, Nat.zero_le, Nat.le_refl, Nat.reduceAdd, Nat.reduceSub, Nat.reduceEqDiff, Nat.reduceLeDiff, Int32.reduceLT, Int32.reduceLE, Int32.reduceAdd, Int32.reduceSub, Int32.reduceMul, Int32.reduceToNatClampNeg, Int32.reduceOfNat, Int32.reduceOfInt, Int64.reduceLT, Int64.reduceAdd, Int64.reduceSub, Int64.reduceMul, String.reduceEq, reduceCtorEq, room_c, room_s, hv]
    refine kf0_72 (con1_1_3 (nar .byte i2) i0 h0 h1 h2) (r0 300 ?_)
    simp only [↓S0, ↓B0, ↓idx_c, ↓setN_c, ↓idxN_c, ↓reduceIte, B1, List.length_cons, List.length_nil, List.mem_cons, List.not_mem_nil, or_false, true_or, or_true, true_and, and_true, and_self, not_true_eq_false, not_false_eq_true, eq_self, ne_eq, Nat.zero_le, Nat.le_refl, Nat.reduceAdd, Nat.reduceSub, Nat.reduceEqDiff, Nat.reduceLeDiff, Int32.reduceLT, Int32.reduceLE, Int32.reduceAdd, Int32.reduceSub, Int32.reduceMul, Int32.reduceToNatClampNeg, Int32.reduceOfNat, Int32.reduceOfInt, Int64.reduceLT, Int64.reduceAdd, Int64.reduceSub, Int64.reduceMul, String.reduceEq, reduceCtorEq, room_c, room_s, c1, c2, c3]
    refine kf0_179 (con2 _ 0 _ _ _ _ _ rfl (by decide)) ?_
    simp only [↓B0, ↓idx_c, ↓setN_c, ↓idxN_c, ↓reduceIte, B1, List.length_cons, List.length_nil, List.mem_cons, List.not_mem_nil, or_false, true_or, or_true, true_and, and_true, and_self, not_true_eq_false, not_false_eq_true, eq_self, ne_eq, Nat.zero_le, Nat.le_refl, Nat.reduceAdd, Nat.reduceSub, Nat.reduceEqDiff, Nat.reduceLeDiff, Int32.reduceLT, Int32.reduceLE, Int32.reduceAdd, Int32.reduceSub, Int32.reduceMul, Int32.reduceToNatClampNeg, Int32.reduceOfNat, Int32.reduceOfInt, Int64.reduceLT, Int64.reduceAdd, Int64.reduceSub, Int64.reduceMul, String.reduceEq, reduceCtorEq, room_c, room_s, sm]
    refine r0 300 ?_
    simp only [↓S0, ↓B0, ↓idx_c, ↓setN_c, ↓idxN_c, ↓reduceIte, B1, List.length_cons, List.length_nil, List.mem_cons, List.not_mem_nil, or_false, true_or, or_true, true_and, and_true, and_self, not_true_eq_false, not_false_eq_true, eq_self, ne_eq, Nat.zero_le, Nat.le_refl, Nat.reduceAdd, Nat.reduceSub, Nat.reduceEqDiff, Nat.reduceLeDiff, Int32.reduceLT, Int32.reduceLE, Int32.reduceAdd, Int32.reduceSub, Int32.reduceMul, Int32.reduceToNatClampNeg, Int32.reduceOfNat, Int32.reduceOfInt, Int64.reduceLT, Int64.reduceAdd, Int64.reduceSub, Int64.reduceMul, String.reduceEq, reduceCtorEq, room_c, room_s]
    refine kf0_207 (con2 _ 1 _ _ _ _ _ rfl (by decide)) ?_
    simp only [↓B0, ↓idx_c, ↓setN_c, ↓idxN_c, ↓reduceIte, B1, List.length_cons, List.length_nil, List.mem_cons, List.not_mem_nil, or_false, true_or, or_true, true_and, and_true, and_self, not_true_eq_false, not_false_eq_true, eq_self, ne_eq, Nat.zero_le, Nat.le_refl, Nat.reduceAdd, Nat.reduceSub, Nat.reduceEqDiff, Nat.reduceLeDiff, Int32.reduceLT, Int32.reduceLE, Int32.reduceAdd, Int32.reduceSub, Int32.reduceMul, Int32.reduceToNatClampNeg, Int32.reduceOfNat, Int32.reduceOfInt, Int64.reduceLT, Int64.reduceAdd, Int64.reduceSub, Int64.reduceMul, String.reduceEq, reduceCtorEq, room_c, room_s, sm, t0]
    refine r0 300 ?_
    simp only [↓S0, ↓B0, ↓idx_c, ↓setN_c, ↓idxN_c, ↓reduceIte, B1, List.length_cons, List.length_nil, List.mem_cons, List.not_mem_nil, or_false, true_or, or_true, true_and, and_true, and_self, not_true_eq_false, not_false_eq_true, eq_self, ne_eq, Nat.zero_le, Nat.le_refl, Nat.reduceAdd, Nat.reduceSub, Nat.reduceEqDiff, Nat.reduceLeDiff, Int32.reduceLT, Int32.reduceLE, Int32.reduceAdd, Int32.reduceSub, Int32.reduceMul, Int32.reduceToNatClampNeg, Int32.reduceOfNat, Int32.reduceOfInt, Int64.reduceLT, Int64.reduceAdd, Int64.reduceSub, Int64.reduceMul, String.reduceEq, reduceCtorEq, room_c, room_s]
    refine kf0_235 (con2 _ 2 _ _ _ _ _ rfl (by decide)) ?_
    simp only [↓B0, ↓idx_c, ↓setN_c, ↓idxN_c, ↓reduceIte, B1, List.length_cons, List.length_nil, List.mem_cons, List.not_mem_nil, or_false, true_or, or_true, true_and, and_true, and_self, not_true_eq_false, not_false_eq_true, eq_self, ne_eq, Nat.zero_le, Nat.le_refl, Nat.reduceAdd, Nat.reduceSub, Nat.reduceEqDiff, Nat.reduceLeDiff, Int32.reduceLT, Int32.reduceLE, Int32.reduceAdd, Int32.reduceSub, Int32.reduceMul, Int32.reduceToNatClampNeg, Int32.reduceOfNat, Int32.reduceOfInt, Int64.reduceLT, Int64.reduceAdd, Int64.reduceSub, Int64.reduceMul, String.reduceEq, reduceCtorEq, room_c, room_s, sm, t1]
    refine r0 300 ?_
    simp only [↓S0, ↓B0, ↓idx_c, ↓setN_c, ↓idxN_c, ↓reduceIte, B1, List.length_cons, List.length_nil, List.mem_cons, List.not_mem_nil, or_false, true_or, or_true, true_and, and_true, and_self, not_true_eq_false, not_false_eq_true, eq_self, ne_eq, Nat.zero_le, Nat.le_refl, Nat.reduceAdd, Nat.reduceSub, Nat.reduceEqDiff, Nat.reduceLeDiff, Int32.reduceLT, Int32.reduceLE, Int32.reduceAdd, Int32.reduceSub, Int32.reduceMul, Int32.reduceToNatClampNeg, Int32.reduceOfNat, Int32.reduceOfInt, Int64.reduceLT, Int64.reduceAdd, Int64.reduceSub, Int64.reduceMul, String.reduceEq, reduceCtorEq, room_c, room_s]
    refine kf0_263 (con2 _ 3 _ _ _ _ _ rfl (by decide)) ?_
    simp only [↓B0, ↓idx_c, ↓setN_c, ↓idxN_c, ↓reduceIte, B1, List.length_cons, List.length_nil, List.mem_cons, List.not_mem_nil, or_false, true_or, or_true, true_and, and_true, and_self, not_true_eq_false, not_false_eq_true, eq_self, ne_eq, Nat.zero_le, Nat.le_refl, Nat.reduceAdd, Nat.reduceSub, Nat.reduceEqDiff, Nat.reduceLeDiff, Int32.reduceLT, Int32.reduceLE, Int32.reduceAdd, Int32.reduceSub, Int32.reduceMul, Int32.reduceToNatClampNeg, Int32.reduceOfNat, Int32.reduceOfInt, Int64.reduceLT, Int64.reduceAdd, Int64.reduceSub, Int64.reduceMul, String.reduceEq, reduceCtorEq, room_c, room_s, sm, t2]
    refine r0 300 ?_
    simp only [↓S0, ↓B0, ↓idx_c, ↓setN_c, ↓idxN_c, ↓reduceIte, B1, List.length_cons, List.length_nil, List.mem_cons, List.not_mem_nil, or_false, true_or, or_true, true_and, and_true, and_self, not_true_eq_false, not_false_eq_true, eq_self, ne_eq, Nat.zero_le, Nat.le_refl, Nat.reduceAdd, Nat.reduceSub, Nat.reduceEqDiff, Nat.reduceLeDiff, Int32.reduceLT, Int32.reduceLE, Int32.reduceAdd, Int32.reduceSub, Int32.reduceMul, Int32.reduceToNatClampNeg, Int32.reduceOfNat, Int32.reduceOfInt, Int64.reduceLT, Int64.reduceAdd, Int64.reduceSub, Int64.reduceMul, String.reduceEq, reduceCtorEq, room_c, room_s]
    refine kf0_291 (con2 _ 4 _ _ _ _ _ rfl (by decide)) ?_
    simp only [↓B0, ↓idx_c, ↓setN_c, ↓idxN_c, ↓reduceIte, B1, List.length_cons, List.length_nil, List.mem_cons, List.not_mem_nil, or_false, true_or, or_true, true_and, and_true, and_self, not_true_eq_false, not_false_eq_true, eq_self, ne_eq, Nat.zero_le, Nat.le_refl, Nat.reduceAdd, Nat.reduceSub, Nat.reduceEqDiff, Nat.reduceLeDiff, Int32.reduceLT, Int32.reduceLE, Int32.reduceAdd, Int32.reduceSub, Int32.reduceMul, Int32.reduceToNatClampNeg, Int32.reduceOfNat, Int32.reduceOfInt, Int64.reduceLT, Int64.reduceAdd, Int64.reduceSub, Int64.reduceMul, String.reduceEq, reduceCtorEq, room_c, room_s, sm]
    refine r0 300 ?_
    simp only [↓S0, ↓B0, ↓idx_c, ↓setN_c, ↓idxN_c, ↓reduceIte, B1, List.length_cons, List.length_nil, List.mem_cons, List.not_mem_nil, or_false, true_or, or_true, true_and, and_true, and_self, not_true_eq_false, not_false_eq_true, eq_self, ne_eq, Nat.zero_le, Nat.le_refl, Nat.reduceAdd, Nat.reduceSub, Nat.reduceEqDiff, Nat.reduceLeDiff, Int32.reduceLT, Int32.reduceLE, Int32.reduceAdd, Int32.reduceSub, Int32.reduceMul, Int32.reduceToNatClampNeg, Int32.reduceOfNat, Int32.reduceOfInt, Int64.reduceLT, Int64.reduceAdd, Int64.reduceSub, Int64.reduceMul, String.reduceEq, reduceCtorEq, room_c, room_s]
    refine kf0_319 (con2 _ 5 _ _ _ _ _ rfl (by decide)) ?_
    simp only [↓B0, ↓idx_c, ↓setN_c, ↓idxN_c, ↓reduceIte, B1, List.length_cons, List.length_nil, List.mem_cons, List.not_mem_nil, or_false, true_or, or_true, true_and, and_true, and_self, not_true_eq_false, not_false_eq_true, eq_self, ne_eq, Nat.zero_le, Nat.le_refl, Nat.reduceAdd, Nat.reduceSub, Nat.reduceEqDiff, Nat.reduceLeDiff, Int32.reduceLT, Int32.reduceLE, Int32.reduceAdd, Int32.reduceSub, Int32.reduceMul, Int32.reduceToNatClampNeg, Int32.reduceOfNat, Int32.reduceOfInt, Int64.reduceLT, Int64.reduceAdd, Int64.reduceSub, Int64.reduceMul, String.reduceEq, reduceCtorEq, room_c, room_s, sm]
    refine r0 300 ?_
    simp only [↓S0, ↓B0, ↓idx_c, ↓setN_c, ↓idxN_c, ↓reduceIte, B1, List.length_cons, List.length_nil, List.mem_cons, List.not_mem_nil, or_false, true_or, or_true, true_and, and_true, and_self, not_true_eq_false, not_false_eq_true, eq_self, ne_eq, Nat.zero_le, Nat.le_refl, Nat.reduceAdd, Nat.reduceSub, Nat.reduceEqDiff, Nat.reduceLeDiff, Int32.reduceLT, Int32.reduceLE, Int32.reduceAdd, Int32.reduceSub, Int32.reduceMul, Int32.reduceToNatClampNeg, Int32.reduceOfNat, Int32.reduceOfInt, Int64.reduceLT, Int64.reduceAdd, Int64.reduceSub, Int64.reduceMul, String.reduceEq, reduceCtorEq, room_c, room_s]
    refine kf0_348 (con2 _ 6 _ _ _ _ _ rfl (by decide)) ?_
    simp only [↓B0, ↓idx_c, ↓setN_c, ↓idxN_c, ↓reduceIte, B1, List.length_cons, List.length_nil, List.mem_cons, List.not_mem_nil, or_false, true_or, or_true, true_and, and_true, and_self, not_true_eq_false, not_false_eq_true, eq_self, ne_eq, Nat.zero_le, Nat.le_refl, Nat.reduceAdd, Nat.reduceSub, Nat.reduceEqDiff, Nat.reduceLeDiff, Int32.reduceLT, Int32.reduceLE, Int32.reduceAdd, Int32.reduceSub, Int32.reduceMul, Int32.reduceToNatClampNeg, Int32.reduceOfNat, Int32.reduceOfInt, Int64.reduceLT, Int64.reduceAdd, Int64.reduceSub, Int64.reduceMul, String.reduceEq, reduceCtorEq, room_c, room_s, sm]
    refine r0 300 ?_
    simp only [↓S0, ↓B0, ↓idx_c, ↓setN_c, ↓idxN_c, ↓reduceIte, B1, List.length_cons, List.length_nil, List.mem_cons, List.not_mem_nil, or_false, true_or, or_true, true_and, and_true, and_self, not_true_eq_false, not_false_eq_true, eq_self, ne_eq, Nat.zero_le, Nat.le_refl, Nat.reduceAdd, Nat.reduceSub, Nat.reduceEqDiff, Nat.reduceLeDiff, Int32.reduceLT, Int32.reduceLE, Int32.reduceAdd, Int32.reduceSub, Int32.reduceMul, Int32.reduceToNatClampNeg, Int32.reduceOfNat, Int32.reduceOfInt, Int64.reduceLT, Int64.reduceAdd, Int64.reduceSub, Int64.reduceMul, String.reduceEq, reduceCtorEq, room_c, room_s]
    refine kf0_377 (con2 _ 7 _ _ _ _ _ rfl (by decide)) ?_
    simp only [↓B0, ↓idx_c, ↓setN_c, ↓idxN_c, ↓reduceIte, B1, List.length_cons, List.length_nil, List.mem_cons, List.not_mem_nil, or_false, true_or, or_true, true_and, and_true, and_self, not_true_eq_false, not_false_eq_true, eq_self, ne_eq, Nat.zero_le, Nat.le_refl, Nat.reduceAdd, Nat.reduceSub, Nat.reduceEqDiff, Nat.reduceLeDiff, Int32.reduceLT, Int32.reduceLE, Int32.reduceAdd, Int32.reduceSub, Int32.reduceMul, Int32.reduceToNatClampNeg, Int32.reduceOfNat, Int32.reduceOfInt, Int64.reduceLT, Int64.reduceAdd, Int64.reduceSub, Int64.reduceMul, String.reduceEq, reduceCtorEq, room_c, room_s, sm]
    refine r0 300 ?_
    simp only [↓S0, ↓B0, ↓idx_c, ↓setN_c, ↓idxN_c, ↓reduceIte, B1, List.length_cons, List.length_nil, List.mem_cons, List.not_mem_nil, or_false, true_or, or_true, true_and, and_true, and_self, not_true_eq_false, not_false_eq_true, eq_self, ne_eq, Nat.zero_le, Nat.le_refl, Nat.reduceAdd, Nat.reduceSub, Nat.reduceEqDiff, Nat.reduceLeDiff, Int32.reduceLT, Int32.reduceLE, Int32.reduceAdd, Int32.reduceSub, Int32.reduceMul, Int32.reduceToNatClampNeg, Int32.reduceOfNat, Int32.reduceOfInt, Int64.reduceLT, Int64.reduceAdd, Int64.reduceSub, Int64.reduceMul, String.reduceEq, reduceCtorEq, room_c, room_s]
    refine kf0_406 (con2 _ 8 _ _ _ _ _ rfl (by decide)) ?_
    simp only [↓B0, ↓idx_c, ↓setN_c, ↓idxN_c, ↓reduceIte, B1, List.length_cons, List.length_nil, List.mem_cons, List.not_mem_nil, or_false, true_or, or_true, true_and, and_true, and_self, not_true_eq_false, not_false_eq_true, eq_self, ne_eq, Nat.zero_le, Nat.le_refl, Nat.reduceAdd, Nat.reduceSub, Nat.reduceEqDiff, Nat.reduceLeDiff, Int32.reduceLT, Int32.reduceLE, Int32.reduceAdd, Int32.reduceSub, Int32.reduceMul, Int32.reduceToNatClampNeg, Int32.reduceOfNat, Int32.reduceOfInt, Int64.reduceLT, Int64.reduceAdd, Int64.reduceSub, Int64.reduceMul, String.reduceEq, reduceCtorEq, room_c, room_s, sm]
    refine r0 300 ?_
    simp only [↓S0, ↓B0, ↓idx_c, ↓setN_c, ↓idxN_c, ↓reduceIte, B1, List.length_cons, List.length_nil, List.mem_cons, List.not_mem_nil, or_false, true_or, or_true, true_and, and_true, and_self, not_true_eq_false, not_false_eq_true, eq_self, ne_eq, Nat.zero_le, Nat.le_refl, Nat.reduceAdd, Nat.reduceSub, Nat.reduceEqDiff, Nat.reduceLeDiff, Int32.reduceLT, Int32.reduceLE, Int32.reduceAdd, Int32.reduceSub, Int32.reduceMul, Int32.reduceToNatClampNeg, Int32.reduceOfNat, Int32.reduceOfInt, Int64.reduceLT, Int64.reduceAdd, Int64.reduceSub, Int64.reduceMul, String.reduceEq, reduceCtorEq, room_c, room_s]
    refine kf0_435 (con2 _ 9 _ _ _ _ _ rfl (by decide)) ?_
    simp only [↓B0, ↓idx_c, ↓setN_c, ↓idxN_c, ↓reduceIte, B1, List.length_cons, List.length_nil, List.mem_cons, List.not_mem_nil, or_false, true_or, or_true, true_and, and_true, and_self, not_true_eq_false, not_false_eq_true, eq_self, ne_eq, Nat.zero_le, Nat.le_refl, Nat.reduceAdd, Nat.reduceSub, Nat.reduceEqDiff, Nat.reduceLeDiff, Int32.reduceLT, Int32.reduceLE, Int32.reduceAdd, Int32.reduceSub, Int32.reduceMul, Int32.reduceToNatClampNeg, Int32.reduceOfNat, Int32.reduceOfInt, Int64.reduceLT, Int64.reduceAdd, Int64.reduceSub, Int64.reduceMul, String.reduceEq, reduceCtorEq, room_c, room_s, sm]
    refine r0 300 ?_
    simp only [↓S0, ↓B0, ↓idx_c, ↓setN_c, ↓idxN_c, ↓reduceIte, B1, List.length_cons, List.length_nil, List.mem_cons, List.not_mem_nil, or_false, true_or, or_true, true_and, and_true, and_self, not_true_eq_false, not_false_eq_true, eq_self, ne_eq, Nat.zero_le, Nat.le_refl, Nat.reduceAdd, Nat.reduceSub, Nat.reduceEqDiff, Nat.reduceLeDiff, Int32.reduceLT, Int32.reduceLE, Int32.reduceAdd, Int32.reduceSub, Int32.reduceMul, Int32.reduceToNatClampNeg, Int32.reduceOfNat, Int32.reduceOfInt, Int64.reduceLT, Int64.reduceAdd, Int64.reduceSub, Int64.reduceMul, String.reduceEq, reduceCtorEq, room_c, room_s]
  · obtain ⟨h0, h1, h2, h3, c1, c2, c3, c4, t0, t1, t2, t3⟩ := facts_4 i0 (by omega) (by omega)
    refine r0 300 ?_
    simp only [↓S0, ↓B0, ↓idx_c, ↓setN_c, ↓idxN_c, ↓reduceIte, B1, List.length_cons, List.length_nil, List.mem_cons, List.not_mem_nil, or_false, true_or, or_true, true_and, and_true, and_self, not_true_eq_false, not_false_eq_true, eq_self, ne_eq, Nat.zero_le, Nat.le_refl, Nat.reduceAdd, Nat.reduceSub, Nat.reduceEqDiff, Nat.reduceLeDiff, Int32.reduceLT, Int32.reduceLE, Int32.reduceAdd, Int32.reduceSub, Int32.reduceMul, Int32.reduceToNatClampNeg, Int32.reduceOfNat, Int32.reduceOfInt, Int64.reduceLT, Int64.reduceAdd, Int64.reduceSub, Int64.reduceMul, String.reduceEq, reduceCtorEq, room_c, room_s, hv]
    refine kf0_72 (con1_1_4 (nar .byte i2) i0 h0 h1 h2 h3) (r0 300 ?_)
    simp only [↓S0, ↓B0, ↓idx_c, ↓setN_c, ↓idxN_c, ↓reduceIte, B1, List.length_cons, List.length_nil, List.mem_cons, List.not_mem_nil, or_false, true_or, or_true, true_and, and_true, and_self, not_true_eq_false, not_false_eq_true, eq_self, ne_eq, Nat.zero_le, Nat.le_refl, Nat.reduceAdd, Nat.reduceSub, Nat.reduceEqDiff, Nat.reduceLeDiff, Int32.reduceLT, Int32.reduceLE, Int32.reduceAdd, Int32.reduceSub, Int32.reduceMul, Int32.reduceToNatClampNeg, Int32.reduceOfNat, Int32.reduceOfInt, Int64.reduceLT, Int64.reduceAdd, Int64.reduceSub, Int64.reduceMul, String.reduceEq, reduceCtorEq, room_c, room_s, c1, c2, c3, c4]
    refine kf0_179 (con2 _ 0 _ _ _ _ _ rfl (by decide)) ?_
    simp only [↓B0, ↓idx_c, ↓setN_c, ↓idxN_c, ↓reduceIte, B1, List.length_cons, List.length_nil, List.mem_cons, List.not_mem_nil, or_false, true_or, or_true, true_and, and_true, and_self, not_true_eq_false, not_false_eq_true, eq_self, ne_eq, Nat.zero_le, Nat.le_refl, Nat.reduceAdd, Nat.reduceSub, Nat.reduceEqDiff, Nat.reduceLeDiff, Int32.reduceLT, Int32.reduceLE, Int32.reduceAdd, Int32.reduceSub, Int32.reduceMul, Int32.reduceToNatClampNeg, Int32.reduceOfNat, Int32.reduceOfInt, Int64.reduceLT, Int64.reduceAdd, Int64.reduceSub, Int64.reduceMul, String.reduceEq, reduceCtorEq, room_c, room_s, sm]
    refine r0 300 ?_
    simp only [↓S0, ↓B0, ↓idx_c, ↓setN_c, ↓idxN_c, ↓reduceIte, B1, List.length_cons, List.length_nil, List.mem_cons, List.not_mem_nil, or_false, true_or, or_true, true_and, and_true, and_self, not_true_eq_false, not_false_eq_true, eq_self, ne_eq, Nat.zero_le, Nat.le_refl, Nat.reduceAdd, Nat.reduceSub, Nat.reduceEqDiff, Nat.reduceLeDiff, Int32.reduceLT, Int32.reduceLE, Int32.reduceAdd, Int32.reduceSub, Int32.reduceMul, Int32.reduceToNatClampNeg, Int32.reduceOfNat, Int32.reduceOfInt, Int64.reduceLT, Int64.reduceAdd, Int64.reduceSub, Int64.reduceMul, String.reduceEq, reduceCtorEq, room_c, room_s]
    refine kf0_207 (con2 _ 1 _ _ _ _ _ rfl (by decide)) ?_
    simp only [↓B0, ↓idx_c, ↓setN_c, ↓idxN_c, ↓reduceIte, B1, List.length_cons, List.length_nil, List.mem_cons, List.not_mem_nil, or_false, true_or, or_true, true_and, and_true, and_self, not_true_eq_false, not_false_eq_true, eq_self, ne_eq, Nat.zero_le, Nat.le_refl, Nat.reduceAdd, Nat.reduceSub, Nat.reduceEqDiff, Nat.reduceLeDiff, Int32.reduceLT, Int32.reduceLE, Int32.reduceAdd, Int32.reduceSub, Int32.reduceMul, Int32.reduceToNatClampNeg, Int32.reduceOfNat, Int32.reduceOfInt, Int64.reduceLT, Int64.reduceAdd, Int64.reduceSub, Int64.reduceMul, String.reduceEq, reduceCtorEq, room_c, room_s, sm, t0]
    refine r0 300 ?_
    simp only [↓S0, ↓B0, ↓idx_c, ↓setN_c, ↓idxN_c, ↓reduceIte, B1, List.length_cons, List.length_nil, List.mem_cons, List.not_mem_nil, or_false, true_or, or_true, true_and, and_true, and_self, not_true_eq_false, not_false_eq_true, eq_self, ne_eq, Nat.zero_le, Nat.le_refl, Nat.reduceAdd, Nat.reduceSub, Nat.reduceEqDiff, Nat.reduceLeDiff, Int32.reduceLT, Int32.reduceLE, Int32.reduceAdd, Int32.reduceSub, Int32.reduceMul, Int32.reduceToNatClampNeg, Int32.reduceOfNat, Int32.reduceOfInt, Int64.reduceLT, Int64.reduceAdd, Int64.reduceSub, Int64.reduceMul, String.reduceEq, reduceCtorEq, room_c, room_s]
    refine kf0_235 (con2 _ 2 _ _ _ _ _ rfl (by decide)) ?_
    simp only [↓B0, ↓idx_c, ↓setN_c, ↓idxN_c, ↓reduceIte, B1, List.length_cons, List.length_nil, List.mem_cons, List.not_mem_nil, or_false, true_or, or_true, true_and, and_true, and_self, not_true_eq_false, not_false_eq_true, eq_self, ne_eq, Nat.zero_le, Nat.le_refl, Nat.reduceAdd, Nat.reduceSub, Nat.reduceEqDiff, Nat.reduceLeDiff, Int32.reduceLT, Int32.reduceLE, Int32.reduceAdd, Int32.reduceSub, Int32.reduceMul, Int32.reduceToNatClampNeg, Int32.reduceOfNat, Int32.reduceOfInt, Int64.reduceLT, Int64.reduceAdd, Int64.reduceSub, Int64.reduceMul, String.reduceEq, reduceCtorEq, room_c, room_s, sm, t1]
    refine r0 300 ?_
    simp only [↓S0, ↓B0, ↓idx_c, ↓setN_c, ↓idxN_c, ↓reduceIte, B1, List.length_cons, List.length_nil, List.mem_cons, List.not_mem_nil, or_false, true_or, or_true, true_and, and_true, and_self, not_true_eq_false, not_false_eq_true, eq_self, ne_eq, Nat.zero_le, Nat.le_refl, Nat.reduceAdd, Nat.reduceSub, Nat.reduceEqDiff, Nat.reduceLeDiff, Int32.reduceLT, Int32.reduceLE, Int32.reduceAdd, Int32.reduceSub, Int32.reduceMul, Int32.reduceToNatClampNeg, Int32.reduceOfNat, Int32.reduceOfInt, Int64.reduceLT, Int64.reduceAdd, Int64.reduceSub, Int64.reduceMul, String.reduceEq, reduceCtorEq, room_c, room_s]
    refine kf0_263 (con2 _ 3 _ _ _ _ _ rfl (by decide)) ?_
    simp only [↓B0, ↓idx_c, ↓setN_c, ↓idxN_c, ↓reduceIte, B1, List.length_cons, List.length_nil, List.mem_cons, List.not_mem_nil, or_false, true_or, or_true, true_and, and_true, and_self, not_true_eq_false, not_false_eq_true, eq_self, ne_eq, Nat.zero_le, Nat.le_refl, Nat.reduceAdd, Nat.reduceSub, Nat.reduceEqDiff, Nat.reduceLeDiff, Int32.reduceLT, Int32.reduceLE, Int32.reduceAdd, Int32.reduceSub, Int32.reduceMul, Int32.reduceToNatClampNeg, Int32.reduceOfNat, Int32.reduceOfInt, Int64.reduceLT, Int64.reduceAdd, Int64.reduceSub, Int64.reduceMul, String.reduceEq, reduceCtorEq, room_c, room_s, sm, t2]
    refine r0 300 ?_
    simp only [↓S0, ↓B0, ↓idx_c, ↓setN_c, ↓idxN_c, ↓reduceIte, B1, List.length_cons, List.length_nil, List.mem_cons, List.not_mem_nil, or_false, true_or, or_true, true_and, and_true, and_self, not_true_eq_false, not_false_eq_true, eq_self, ne_eq, Nat.zero_le, Nat.le_refl, Nat.reduceAdd, Nat.reduceSub, Nat.reduceEqDiff, Nat.reduceLeDiff, Int32.reduceLT, Int32.reduceLE, Int32.reduceAdd, Int32.reduceSub, Int32.reduceMul, Int32.reduceToNatClampNeg, Int32.reduceOfNat, Int32.reduceOfInt, Int64.reduceLT, Int64.reduceAdd, Int64.reduceSub, Int64.reduceMul, String.reduceEq, reduceCtorEq, room_c, room_s]
    refine kf0_291 (con2 _ 4 _ _ _ _ _ rfl (by decide)) ?_
    simp only [↓B0, ↓idx_c, ↓setN_c, ↓idxN_c, ↓reduceIte, B1, List.length_cons, List.length_nil, List.mem_cons, List.not_mem_nil, or_false, true_or, or_true, true_and, and_true, and_self, not_true_eq_false, not_false_eq_true, eq_self, ne_eq, Nat.zero_le, Nat.le_refl, Nat.reduceAdd, Nat.reduceSub, Nat.reduceEqDiff, Nat.reduceLeDiff, Int32.reduceLT, Int32.reduceLE, Int32.reduceAdd, Int32.reduceSub, Int32.reduceMul, Int32.reduceToNatClampNeg, Int32.reduceOfNat, Int32.reduceOfInt, Int64.reduceLT, Int64.reduceAdd, Int64.reduceSub, Int64.reduceMul, String.reduceEq, reduceCtorEq, room_c, room_s, sm, t3]
    refine r0 300 ?_
    simp only [↓S0, ↓B0, ↓idx_c, ↓setN_c, ↓idxN_c, ↓reduceIte, B1, List.length_cons, List.length_nil, List.mem_cons, List.not_mem_nil, or_false, true_or, or_true, true_and, and_true, and_self, not_true_eq_false, not_false_eq_true, eq_self, ne_eq, Nat.zero_le, Nat.le_refl, Nat.reduceAdd, Nat.reduceSub, Nat.reduceEqDiff, Nat.reduceLeDiff, Int32.reduceLT, Int32.reduceLE, Int32.reduceAdd, Int32.reduceSub, Int32.reduceMul, Int32.reduceToNatClampNeg, Int32.reduceOfNat, Int32.reduceOfInt, Int64.reduceLT, Int64.reduceAdd, Int64.reduceSub, Int64.reduceMul, String.reduceEq, reduceCtorEq, room_c, room_s]
    refine kf0_319 (con2 _ 5 _ _ _ _ _ rfl (by decide)) ?_
    simp only [↓B0, ↓idx_c, ↓setN_c, ↓idxN_c, ↓reduceIte, B1, List.length_cons, List.length_nil, List.mem_cons, List.not_mem_nil, or_false, true_or, or_true, true_and, and_true, and_self, not_true_eq_false, not_false_eq_true, eq_self, ne_eq, Nat.zero_le, Nat.le_refl, Nat.reduceAdd, Nat.reduceSub, Nat.reduceEqDiff, Nat.reduceLeDiff, Int32.reduceLT, Int32.reduceLE, Int32.reduceAdd, Int32.reduceSub, Int32.reduceMul, Int32.reduceToNatClampNeg, Int32.reduceOfNat, Int32.reduceOfInt, Int64.reduceLT, Int64.reduceAdd, Int64.reduceSub, Int64.reduceMul, String.reduceEq, reduceCtorEq, room_c, room_s, sm]
    refine r0 300 ?_
    simp only [↓S0, ↓B0, ↓idx_c, ↓setN_c, ↓idxN_c, ↓reduceIte, B1, List.length_cons, List.length_nil, List.mem_cons, List.not_mem_nil, or_false, true_or, or_true, true_and, and_true, and_self, not_true_eq_false, not_false_eq_true, eq_self, ne_eq, Nat.zero_le, Nat.le_refl, Nat.reduceAdd, Nat.reduceSub, Nat.reduceEqDiff, Nat.reduceLeDiff, Int32.reduceLT, Int32.reduceLE, Int32.reduceAdd, Int32.reduceSub, Int32.reduceMul, Int32.reduceToNatClampNeg, Int32.reduceOfNat, Int32.reduceOfInt, Int64.reduceLT, Int64.reduceAdd, Int64.reduceSub, Int64.reduceMul, String.reduceEq, reduceCtorEq, room_c, room_s]
    refine kf0_348 (con2 _ 6 _ _ _ _ _ rfl (by decide)) ?_
    simp only [↓B0, ↓idx_c, ↓setN_c, ↓idxN_c, ↓reduceIte, B1, List.length_cons, List.length_nil, List.mem_cons, List.not_mem_nil, or_false, true_or, or_true, true_and, and_true, and_self, not_true_eq_false, not_false_eq_true, eq_self, ne_eq, Nat.zero_le, Nat.le_refl, Nat.reduceAdd, Nat.reduceSub, Nat.reduceEqDiff, Nat.reduceLeDiff, Int32.reduceLT, Int32.reduceLE, Int32.reduceAdd, Int32.reduceSub, Int32.reduceMul, Int32.reduceToNatClampNeg, Int32.reduceOfNat, Int32.reduceOfInt, Int64.reduceLT, Int64.reduceAdd, Int64.reduceSub, Int64.reduceMul, String.reduceEq, reduceCtorEq, room_c, room_s, sm]
    refine r0 300 ?_
    simp only [↓S0, ↓B0, ↓idx_c, ↓setN_c, ↓idxN_c, ↓reduceIte, B1, List.length_cons, List.length_nil, List.mem_cons, List.not_mem_nil, or_false, true_or, or_true, true_and, and_true, and_self, not_true_eq_false, not_false_eq_true, eq_self, ne_eq, Nat.zero_le, Nat.le_refl, Nat.reduceAdd, Nat.reduceSub, Nat.reduceEqDiff, Nat.reduceLeDiff, Int32.reduceLT, Int32.reduceLE, Int32.reduceAdd, Int32.reduceSub, Int32.reduceMul, Int32.reduceToNatClampNeg, Int32.reduceOfNat, Int32.reduceOfInt, Int64.reduceLT, Int64.reduceAdd, Int64.reduceSub, Int64.reduceMul, String.reduceEq, reduceCtorEq, room_c, room_s]
    refine kf0_377 (con2 _ 7 _ _ _ _ _ rfl (by decide)) ?_
    simp only [↓B0, ↓idx_c, ↓setN_c, ↓idxN_c, ↓reduceIte, B1, List.length_cons, List.length_nil, List.mem_cons, List.not_mem_nil, or_false, true_or, or_true, true_and, and_true, and_self, not_true_eq_false, not_false_eq_true, eq_self, ne_eq, Nat.zero_le, Nat.le_refl, Nat.reduceAdd, Nat.reduceSub, Nat.reduceEqDiff, Nat.reduceLeDiff, Int32.reduceLT, Int32.reduceLE, Int32.reduceAdd, Int32.reduceSub, Int32.reduceMul, Int32.reduceToNatClampNeg, Int32.reduceOfNat, Int32.reduceOfInt, Int64.reduceLT, Int64.reduceAdd, Int64.reduceSub, Int64.reduceMul, String.reduceEq, reduceCtorEq, room_c, room_s, sm]
    refine r0 300 ?_
    simp only [↓S0, ↓B0, ↓idx_c, ↓setN_c, ↓idxN_c, ↓reduceIte, B1, List.length_cons, List.length_nil, List.mem_cons, List.not_mem_nil, or_false, true_or, or_true, true_and, and_true, and_self, not_true_eq_false, not_false_eq_true, eq_self, ne_eq, Nat.zero_le, Nat.le_refl, Nat.reduceAdd, Nat.reduceSub, Nat.reduceEqDiff, Nat.reduceLeDiff, Int32.reduceLT, Int32.reduceLE, Int32.reduceAdd, Int32.reduceSub, Int32.reduceMul, Int32.reduceToNatClampNeg, Int32.reduceOfNat, Int32.reduceOfInt, Int64.reduceLT, Int64.reduceAdd, Int64.reduceSub, Int64.reduceMul, String.reduceEq, reduceCtorEq, room_c, room_s]
    refine kf0_406 (con2 _ 8 _ _ _ _ _ rfl (by decide)) ?_
    simp only [↓B0, ↓idx_c, ↓setN_c, ↓idxN_c, ↓reduceIte, B1, List.length_cons, List.length_nil, List.mem_cons, List.not_mem_nil, or_false, true_or, or_true, true_and, and_true, and_self, not_true_eq_false, not_false_eq_true, eq_self, ne_eq, Nat.zero_le, Nat.le_refl, Nat.reduceAdd, Nat.reduceSub, Nat.reduceEqDiff, Nat.reduceLeDiff, Int32.reduceLT, Int32.reduceLE, Int32.reduceAdd, Int32.reduceSub, Int32.reduceMul, Int32.reduceToNatClampNeg, Int32.reduceOfNat, Int32.reduceOfInt, Int64.reduceLT, Int64.reduceAdd, Int64.reduceSub, Int64.reduceMul, String.reduceEq, reduceCtorEq, room_c, room_s, sm]
    refine r0 300 ?_
    simp only [↓S0, ↓B0, ↓idx_c, ↓setN_c, ↓idxN_c, ↓reduceIte, B1, List.length_cons, List.length_nil, List.mem_cons, List.not_mem_nil, or_false, true_or, or_true, true_and, and_true, and_self, not_true_eq_false, not_false_eq_true, eq_self, ne_eq, Nat.zero_le, Nat.le_refl, Nat.reduceAdd, Nat.reduceSub, Nat.reduceEqDiff, Nat.reduceLeDiff, Int32.reduceLT, Int32.reduceLE, Int32.reduceAdd, Int32.reduceSub, Int32.reduceMul, Int32.reduceToNatClampNeg, Int32.reduceOfNat, Int32.reduceOfInt, Int64.reduceLT, Int64.reduceAdd, Int64.reduceSub, Int64.reduceMul, String.reduceEq, reduceCtorEq, room_c, room_s]
    refine kf0_435 (con2 _ 9 _ _ _ _ _ rfl (by decide)) ?_
    simp only [↓B0, ↓idx_c, ↓setN_c, ↓idxN_c, ↓reduceIte, B1, List.length_cons, List.length_nil, List.mem_cons, List.not_mem_nil, or_false, true_or, or_true, true_and, and_true, and_self, not_true_eq_false, not_false_eq_true, eq_self, ne_eq, Nat.zero_le, Nat.le_refl, Nat.reduceAdd, Nat.reduceSub, Nat.reduceEqDiff, Nat.reduceLeDiff, Int32.reduceLT, Int32.reduceLE, Int32.reduceAdd, Int32.reduceSub, Int32.reduceMul, Int32.reduceToNatClampNeg, Int32.reduceOfNat, Int32.reduceOfInt, Int64.reduceLT, Int64.reduceAdd, Int64.reduceSub, Int64.reduceMul, String.reduceEq, reduceCtorEq, room_c, room_s, sm]
    refine r0 300 ?_
    simp only [↓S0, ↓B0, ↓idx_c, ↓setN_c, ↓idxN_c, ↓reduceIte, B1, List.length_cons, List.length_nil, List.mem_cons, List.not_mem_nil, or_false, true_or, or_true, true_and, and_true, and_self, not_true_eq_false, not_false_eq_true, eq_self, ne_eq, Nat.zero_le, Nat.le_refl, Nat.reduceAdd, Nat.reduceSub, Nat.reduceEqDiff, Nat.reduceLeDiff, Int32.reduceLT, Int32.reduceLE, Int32.reduceAdd, Int32.reduceSub, Int32.reduceMul, Int32.reduceToNatClampNeg, Int32.reduceOfNat, Int32.reduceOfInt, Int64.reduceLT, Int64.reduceAdd, Int64.reduceSub, Int64.reduceMul, String.reduceEq, reduceCtorEq, room_c, room_s]
  · obtain ⟨h0, h1, h2, h3, h4, c1, c2, c3, c4, t0, t1, t2, t3, t4⟩ := facts_5 i0 (by omega) (by omega)
    refine r0 300 ?_
    simp only [↓S0, ↓B0, ↓idx_c, ↓setN_c, ↓idxN_c, ↓reduceIte, B1, List.length_cons, List.length_nil, List.mem_cons, List.not_mem_nil, or_false, true_or, or_true, true_and, and_true, and_self, not_true_eq_false, not_false_eq_true, eq_self, ne_eq, Nat.zero_le, Nat.le_refl, Nat.reduceAdd, Nat.reduceSub, Nat.reduceEqDiff, Nat.reduceLeDiff, Int32.reduceLT, Int32.reduceLE, Int32.reduceAdd, Int32.reduceSub, Int32.reduceMul, Int32.reduceToNatClampNeg, Int32.reduceOfNat, Int32.reduceOfInt, Int64.reduceLT, Int64.reduceAdd, Int64.reduceSub, Int64.reduceMul, String.reduceEq, reduceCtorEq, room_c, room_s, hv]
    refine kf0_72 (con1_1_5 (nar .byte i2) i0 h0 h1 h2 h3 h4) (r0 300 ?_)
    simp only [↓S0, ↓B0, ↓idx_c, ↓setN_c, ↓idxN_c, ↓reduceIte, B1, List.length_cons, List.length_nil, List.mem_cons, List.not_mem_nil, or_false, true_or, or_true, true_and, and_true, and_self, not_true_eq_false, not_false_eq_true, eq_self, ne_eq, Nat.zero_le, Nat.le_refl, Nat.reduceAdd, Nat.reduceSub, Nat.reduceEqDiff, Nat.reduceLeDiff, Int32.reduceLT, Int32.reduceLE, Int32.reduceAdd, Int32.reduceSub, Int32.reduceMul, Int32.reduceToNatClampNeg, Int32.reduceOfNat, Int32.reduceOfInt, Int64.reduceLT, Int64.reduceAdd, Int64.reduceSub, Int64.reduceMul, String.reduceEq, reduceCtorEq, room_c, room_s, c1, c2, c3, c4]
    refine kf0_179 (con2 _ 0 _ _ _ _ _ rfl (by decide)) ?_
    simp only [↓B0, ↓idx_c, ↓setN_c, ↓idxN_c, ↓reduceIte, B1, List.length_cons, List.length_nil, List.mem_cons, List.not_mem_nil, or_false, true_or, or_true, true_and, and_true, and_self, not_true_eq_false, not_false_eq_true, eq_self, ne_eq, Nat.zero_le, Nat.le_refl, Nat.reduceAdd, Nat.reduceSub, Nat.reduceEqDiff, Nat.reduceLeDiff, Int32.reduceLT, Int32.reduceLE, Int32.reduceAdd, Int32.reduceSub, Int32.reduceMul, Int32.reduceToNatClampNeg, Int32.reduceOfNat, Int32.reduceOfInt, Int64.reduceLT, Int64.reduceAdd, Int64.reduceSub, Int64.reduceMul, String.reduceEq, reduceCtorEq, room_c, room_s, sm]
    refine r0 300 ?_
    simp only [↓S0, ↓B0, ↓idx_c, ↓setN_c, ↓idxN_c, ↓reduceIte, B1, List.length_cons, List.length_nil, List.mem_cons, List.not_mem_nil, or_false, true_or, or_true, true_and, and_true, and_self, not_true_eq_false, not_false_eq_true, eq_self, ne_eq, Nat.zero_le, Nat.le_refl, Nat.reduceAdd, Nat.reduceSub, Nat.reduceEqDiff, Nat.reduceLeDiff, Int32.reduceLT, Int32.reduceLE, Int32.reduceAdd, Int32.reduceSub, Int32.reduceMul, Int32.reduceToNatClampNeg, Int32.reduceOfNat, Int32.reduceOfInt, Int64.reduceLT, Int64.reduceAdd, Int64.reduceSub, Int64.reduceMul, String.reduceEq, reduceCtorEq, room_c, room_s]
    refine kf0_207 (con2 _ 1 _ _ _ _ _ rfl (by decide)) ?_
    simp only [↓B0, ↓idx_c, ↓setN_c, ↓idxN_c, ↓reduceIte, B1, List.length_cons, List.length_nil, List.mem_cons, List.not_mem_nil, or_false, true_or, or_true, true_and, and_true, and_self, not_true_eq_false, not_false_eq_true, eq_self, ne_eq, Nat.zero_le, Nat.le_refl, Nat.reduceAdd, Nat.reduceSub, Nat.reduceEqDiff, Nat.reduceLeDiff, Int32.reduceLT, Int32.reduceLE, Int32.reduceAdd, Int32.reduceSub, Int32.reduceMul, Int32.reduceToNatClampNeg, Int32.reduceOfNat, Int32.reduceOfInt, Int64.reduceLT, Int64.reduceAdd, Int64.reduceSub, Int64.reduceMul, String.reduceEq, reduceCtorEq, room_c, room_s, sm, t0]
    refine r0 300 ?_
    simp only [↓S0, ↓B0, ↓idx_c, ↓setN_c, ↓idxN_c, ↓reduceIte, B1, List.length_cons, List.length_nil, List.mem_cons, List.not_mem_nil, or_false, true_or, or_true, true_and, and_true, and_self, not_true_eq_false, not_false_eq_true, eq_self, ne_eq, Nat.zero_le, Nat.le_refl, Nat.reduceAdd, Nat.reduceSub, Nat.reduceEqDiff, Nat.reduceLeDiff, Int32.reduceLT, Int32.reduceLE, Int32.reduceAdd, Int32.reduceSub, Int32.reduceMul, Int32.reduceToNatClampNeg, Int32.reduceOfNat, Int32.reduceOfInt, Int64.reduceLT, Int64.reduceAdd, Int64.reduceSub, Int64.reduceMul, String.reduceEq, reduceCtorEq, room_c, room_s]
    refine kf0_235 (con2 _ 2 _ _ _ _ _ rfl (by decide)) ?_
    simp only [↓B0, ↓idx_c, ↓setN_c, ↓idxN_c, ↓reduceIte, B1, List.length_cons, List.length_nil, List.mem_cons, List.not_mem_nil, or_false, true_or, or_true, true_and, and_true, and_self, not_true_eq_false, not_false_eq_true, eq_self, ne_eq, Nat.zero_le, Nat.le_refl, Nat.reduceAdd, Nat.reduceSub, Nat.reduceEqDiff, Nat.reduceLeDiff, Int32.reduceLT, Int32.reduceLE, Int32.reduceAdd, Int32.reduceSub, Int32.reduceMul, Int32.reduceToNatClampNeg, Int32.reduceOfNat, Int32.reduceOfInt, Int64.reduceLT, Int64.reduceAdd, Int64.reduceSub, Int64.reduceMul, String.reduceEq, reduceCtorEq, room_c, room_s, sm, t1]
    refine r0 300 ?_
    simp only [↓S0, ↓B0, ↓idx_c, ↓setN_c, ↓idxN_c, ↓reduceIte, B1, List.length_cons, List.length_nil, List.mem_cons, List.not_mem_nil, or_false, true_or, or_true, true_and, and_true, and_self, not_true_eq_false, not_false_eq_true, eq_self, ne_eq, Nat.zero_le, Nat.le_refl, Nat.reduceAdd, Nat.reduceSub, Nat.reduceEqDiff, Nat.reduceLeDiff, Int32.reduceLT, Int32.reduceLE, Int32.reduceAdd, Int32.reduceSub, Int32.reduceMul, Int32.reduceToNatClampNeg, Int32.reduceOfNat, Int32.reduceOfInt, Int64.reduceLT, Int64.reduceAdd, Int64.reduceSub, Int64.reduceMul, String.reduceEq, reduceCtorEq, room_c, room_s]
    refine kf0_263 (con2 _ 3 _ _ _ _ _ rfl (by decide)) ?_
    simp only [↓B0, ↓idx_c, ↓setN_c, ↓idxN_c, ↓reduceIte, B1, List.length_cons, List.length_nil, List.mem_cons, List.not_mem_nil, or_false, true_or, or_true, true_and, and_true, and_self, not_true_eq_false, not_false_eq_true, eq_self, ne_eq, Nat.zero_le, Nat.le_refl, Nat.reduceAdd, Nat.reduceSub, Nat.reduceEqDiff, Nat.reduceLeDiff, Int32.reduceLT, Int32.reduceLE, Int32.reduceAdd, Int32.reduceSub, Int32.reduceMul, Int32.reduceToNatClampNeg, Int32.reduceOfNat, Int32.reduceOfInt, Int64.reduceLT, Int64.reduceAdd, Int64.reduceSub, Int64.reduceMul, String.reduceEq, reduceCtorEq, room_c, room_s, sm, t2]
    refine r0 300 ?_
    simp only [↓S0, ↓B0, ↓idx_c, ↓setN_c, ↓idxN_c, ↓reduceIte, B1, List.length_cons, List.length_nil, List.mem_cons, List.not_mem_nil, or_false, true_or, or_true, true_and, and_true, and_self, not_true_eq_false, not_false_eq_true, eq_self, ne_eq, Nat.zero_le, Nat.le_refl, Nat.reduceAdd, Nat.reduceSub, Nat.reduceEqDiff, Nat.reduceLeDiff, Int32.reduceLT, Int32.reduceLE, Int32.reduceAdd, Int32.reduceSub, Int32.reduceMul, Int32.reduceToNatClampNeg, Int32.reduceOfNat, Int32.reduceOfInt, Int64.reduceLT, Int64.reduceAdd, Int64.reduceSub, Int64.reduceMul, String.reduceEq, reduceCtorEq, room_c, room_s]
    refine kf0_291 (con2 _ 4 _ _ _ _ _ rfl (by decide)) ?_
    simp only [↓B0, ↓idx_c, ↓setN_c, ↓idxN_c, ↓reduceIte, B1, List.length_cons, List.length_nil, List.mem_cons, List.not_mem_nil, or_false, true_or, or_true, true_and, and_true, and_self, not_true_eq_false, not_false_eq_true, eq_self, ne_eq, Nat.zero_le, Nat.le_refl, Nat.reduceAdd, Nat.reduceSub, Nat.reduceEqDiff, Nat.reduceLeDiff, Int32.reduceLT, Int32.reduceLE, Int32.reduceAdd, Int32.reduceSub, Int32.reduceMul, Int32.reduceToNatClampNeg, Int32.reduceOfNat, Int32.reduceOfInt, Int64.reduceLT, Int64.reduceAdd, Int64.reduceSub, Int64.reduceMul, String.reduceEq, reduceCtorEq, room_c, room_s, sm, t3]
    refine r0 300 ?_
    simp only [↓S0, ↓B0, ↓idx_c, ↓setN_c, ↓idxN_c, ↓reduceIte, B1, List.length_cons, List.length_nil, List.mem_cons, List.not_mem_nil, or_false, true_or, or_true, true_and, and_true, and_self, not_true_eq_false, not_false_eq_true, eq_self, ne_eq, Nat.zero_le, Nat.le_refl, Nat.reduceAdd, Nat.reduceSub, Nat.reduceEqDiff, Nat.reduceLeDiff, Int32.reduceLT, Int32.reduceLE, Int32.reduceAdd, Int32.reduceSub, Int32.reduceMul, Int32.reduceToNatClampNeg, Int32.reduceOfNat, Int32.reduceOfInt, Int64.reduceLT, Int64.reduceAdd, Int64.reduceSub, Int64.reduceMul, String.reduceEq, reduceCtorEq, room_c, room_s]
    refine kf0_319 (con2 _ 5 _ _ _ _ _ rfl (by decide)) ?_
    simp only [↓B0, ↓idx_c, ↓setN_c, ↓idxN_c, ↓reduceIte, B1, List.length_cons, List.length_nil, List.mem_cons, List.not_mem_nil, or_false, true_or, or_true, true_and, and_true, and_self, not_true_eq_false, not_false_eq_true, eq_self, ne_eq, Nat.zero_le, Nat.le_refl, Nat.reduceAdd, Nat.reduceSub, Nat.reduceEqDiff, Nat.reduceLeDiff, Int32.reduceLT, Int32.reduceLE, Int32.reduceAdd, Int32.reduceSub, Int32.reduceMul, Int32.reduceToNatClampNeg, Int32.reduceOfNat, Int32.reduceOfInt, Int64.reduceLT, Int64.reduceAdd, Int64.reduceSub, Int64.reduceMul, String.reduceEq, reduceCtorEq, room_c, room_s, sm, t4]
    refine r0 300 ?_
    simp only [↓S0, ↓B0, ↓idx_c, ↓setN_c, ↓idxN_c, ↓reduceIte, B1, List.length_cons, List.length_nil, List.mem_cons, List.not_mem_nil, or_false, true_or, or_true, true_and, and_true, and_self, not_true_eq_false, not_false_eq_true, eq_self, ne_eq, Nat.zero_le, Nat.le_refl, Nat.reduceAdd, Nat.reduceSub, Nat.reduceEqDiff, Nat.reduceLeDiff, Int32.reduceLT, Int32.reduceLE, Int32.reduceAdd, Int32.reduceSub, Int32.reduceMul, Int32.reduceToNatClampNeg, Int32.reduceOfNat, Int32.reduceOfInt, Int64.reduceLT, Int64.reduceAdd, Int64.reduceSub, Int64.reduceMul, String.reduceEq, reduceCtorEq, room_c, room_s]
    refine kf0_348 (con2 _ 6 _ _ _ _ _ rfl (by decide)) ?_
    simp only [↓B0, ↓idx_c, ↓setN_c, ↓idxN_c, ↓reduceIte, B1, List.length_cons, List.length_nil, List.mem_cons, List.not_mem_nil, or_false, true_or, or_true, true_and, and_true, and_self, not_true_eq_false, not_false_eq_true, eq_self, ne_eq, Nat.zero_le, Nat.le_refl, Nat.reduceAdd, Nat.reduceSub, Nat.reduceEqDiff, Nat.reduceLeDiff, Int32.reduceLT, Int32.reduceLE, Int32.reduceAdd, Int32.reduceSub, Int32.reduceMul, Int32.reduceToNatClampNeg, Int32.reduceOfNat, Int32.reduceOfInt, Int64.reduceLT, Int64.reduceAdd, Int64.reduceSub, Int64.reduceMul, String.reduceEq, reduceCtorEq, room_c, room_s, sm]
    refine r0 300 ?_
    simp only [↓S0, ↓B0, ↓idx_c, ↓setN_c, ↓idxN_c, ↓reduceIte, B1, List.length_cons, List.length_nil, List.mem_cons, List.not_mem_nil, or_false, true_or, or_true, true_and, and_true, and_self, not_true_eq_false, not_false_eq_true, eq_self, ne_eq, Nat.zero_le, Nat.le_refl, Nat.reduceAdd, Nat.reduceSub, Nat.reduceEqDiff, Nat.reduceLeDiff, Int32.reduceLT, Int32.reduceLE, Int32.reduceAdd, Int32.reduceSub, Int32.reduceMul, Int32.reduceToNatClampNeg, Int32.reduceOfNat, Int32.reduceOfInt, Int64.reduceLT, Int64.reduceAdd, Int64.reduceSub, Int64.reduceMul, String.reduceEq, reduceCtorEq, room_c, room_s]
    refine kf0_377 (con2 _ 7 _ _ _ _ _ rfl (by decide)) ?_
    simp only [↓B0, ↓idx_c, ↓setN_c, ↓idxN_c, ↓reduceIte, B1, List.length_cons, List.length_nil, List.mem_cons, List.not_mem_nil, or_false, true_or, or_true, true_and, and_true, and_self, not_true_eq_false, not_false_eq_true, eq_self, ne_eq, Nat.zero_le, Nat.le_refl, Nat.reduceAdd, Nat.reduceSub, Nat.reduceEqDiff, Nat.reduceLeDiff, Int32.reduceLT, Int32.reduceLE, Int32.reduceAdd, Int32.reduceSub, Int32.reduceMul, Int32.reduceToNatClampNeg, Int32.reduceOfNat, Int32.reduceOfInt, Int64.reduceLT, Int64.reduceAdd, Int64.reduceSub, Int64.reduceMul, String.reduceEq, reduceCtorEq, room_c, room_s, sm]
    refine r0 300 ?_
    simp only [↓S0, ↓B0, ↓idx_c, ↓setN_c, ↓idxN_c, ↓reduceIte, B1, List.length_cons, List.length_nil, List.mem_cons, List.not_mem_nil, or_false, true_or, or_true, true_and, and_true, and_self, not_true_eq_false, not_false_eq_true, eq_self, ne_eq, Nat.zero_le, Nat.le_refl, Nat.reduceAdd, Nat.reduceSub, Nat.reduceEqDiff, Nat.reduceLeDiff, Int32.reduceLT, Int32.reduceLE, Int32.reduceAdd, Int32.reduceSub, Int32.reduceMul, Int32.reduceToNatClampNeg, Int32.reduceOfNat, Int32.reduceOfInt, Int64.reduceLT, Int64.reduceAdd, Int64.reduceSub, Int64.reduceMul, String.reduceEq, reduceCtorEq, room_c, room_s]
    refine kf0_406 (con2 _ 8 _ _ _ _ _ rfl (by decide)) ?_
    simp only [↓B0, ↓idx_c, ↓setN_c, ↓idxN_c, ↓reduceIte, B1, List.length_cons, List.length_nil, List.mem_cons, List.not_mem_nil, or_false, true_or, or_true, true_and, and_true, and_self, not_true_eq_false, not_false_eq_true, eq_self, ne_eq, Nat.zero_le, Nat.le_refl, Nat.reduceAdd, Nat.reduceSub, Nat.reduceEqDiff, Nat.reduceLeDiff, Int32.reduceLT, Int32.reduceLE, Int32.reduceAdd, Int32.reduceSub, Int32.reduceMul, Int32.reduceToNatClampNeg, Int32.reduceOfNat, Int32.reduceOfInt, Int64.reduceLT, Int64.reduceAdd, Int64.reduceSub, Int64.reduceMul, String.reduceEq, reduceCtorEq, room_c, room_s, sm]
    refine r0 300 ?_
    simp only [↓S0, ↓B0, ↓idx_c, ↓setN_c, ↓idxN_c, ↓reduceIte, B1, List.length_cons, List.length_nil, List.mem_cons, List.not_mem_nil, or_false, true_or, or_true, true_and, and_true, and_self, not_true_eq_false, not_false_eq_true, eq_self, ne_eq, Nat.zero_le, Nat.le_refl, Nat.reduceAdd, Nat.reduceSub, Nat.reduceEqDiff, Nat.reduceLeDiff, Int32.reduceLT, Int32.reduceLE, Int32.reduceAdd, Int32.reduceSub, Int32.reduceMul, Int32.reduceToNatClampNeg, Int32.reduceOfNat, Int32.reduceOfInt, Int64.reduceLT, Int64.reduceAdd, Int64.reduceSub, Int64.reduceMul, String.reduceEq, reduceCtorEq, room_c, room_s]
    refine kf0_435 (con2 _ 9 _ _ _ _ _ rfl (by decide)) ?_
    simp only [↓B0, ↓idx_c, ↓setN_c, ↓idxN_c, ↓reduceIte, B1, List.length_cons, List.length_nil, List.mem_cons, List.not_mem_nil, or_false, true_or, or_true, true_and, and_true, and_self, not_true_eq_false, not_false_eq_true, eq_self, ne_eq, Nat.zero_le, Nat.le_refl, Nat.reduceAdd, Nat.reduceSub, Nat.reduceEqDiff, Nat.reduceLeDiff, Int32.reduceLT, Int32.reduceLE, Int32.reduceAdd, Int32.reduceSub, Int32.reduceMul, Int32.reduceToNatClampNeg, Int32.reduceOfNat, Int32.reduceOfInt, Int64.reduceLT, Int64.reduceAdd, Int64.reduceSub, Int64.reduceMul, String.reduceEq, reduceCtorEq, room_c, room_s, sm]
    refine r0 300 ?_
    simp only [↓S0, ↓B0, ↓idx_c, ↓setN_c, ↓idxN_c, ↓reduceIte, B1, List.length_cons, List.length_nil, List.mem_cons, List.not_mem_nil, or_false, true_or, or_true, true_and, and_true, and_self, not_true_eq_false, not_false_eq_true, eq_self, ne_eq, Nat.zero_le, Nat.le_refl, Nat.reduceAdd, Nat.reduceSub, Nat.reduceEqDiff, Nat.reduceLeDiff, Int32.reduceLT, Int32.reduceLE, Int32.reduceAdd, Int32.reduceSub, Int32.reduceMul, Int32.reduceToNatClampNeg, Int32.reduceOfNat, Int32.reduceOfInt, Int64.reduceLT, Int64.reduceAdd, Int64.reduceSub, Int64.reduceMul, String.reduceEq, reduceCtorEq, room_c, room_s]
  · obtain ⟨h0, c1, t0⟩ := facts_1 i0 (by omega) (by omega)
    refine r0 300 ?_
    simp only [↓S0, ↓B0, ↓idx_c, ↓setN_c, ↓idxN_c, ↓reduceIte, B1, List.length_cons, List.length_nil, List.mem_cons, List.not_mem_nil, or_false, true_or, or_true, true_and, and_true, and_self, not_true_eq_false, not_false_eq_true, eq_self, ne_eq, Nat.zero_le, Nat.le_refl, Nat.reduceAdd, Nat.reduceSub, Nat.reduceEqDiff, Nat.reduceLeDiff, Int32.reduceLT, Int32.reduceLE, Int32.reduceAdd, Int32.reduceSub, Int32.reduceMul, Int32.reduceToNatClampNeg, Int32.reduceOfNat, Int32.reduceOfInt, Int64.reduceLT, Int64.reduceAdd, Int64.reduceSub, Int64.reduceMul, String.reduceEq, reduceCtorEq, room_c, room_s, hv]
    refine kf0_72 (con1_2_1 (nar .byte i2) i0 h0) (r0 300 ?_)
    simp only [↓S0, ↓B0, ↓idx_c, ↓setN_c, ↓idxN_c, ↓reduceIte, B1, List.length_cons, List.length_nil, List.mem_cons, List.not_mem_nil, or_false, true_or, or_true, true_and, and_true, and_self, not_true_eq_false, not_false_eq_true, eq_self, ne_eq, Nat.zero_le, Nat.le_refl, Nat.reduceAdd, Nat.reduceSub, Nat.reduceEqDiff, Nat.reduceLeDiff, Int32.reduceLT, Int32.reduceLE, Int32.reduceAdd, Int32.reduceSub, Int32.reduceMul, Int32.reduceToNatClampNeg, Int32.reduceOfNat, Int32.reduceOfInt, Int64.reduceLT, Int64.reduceAdd, Int64.reduceSub, Int64.reduceMul, String.reduceEq, reduceCtorEq, room_c, room_s, c1]
    refine kf0_179 (con2 _ 0 _ _ _ _ _ rfl (by decide)) ?_
    simp only [↓B0, ↓idx_c, ↓setN_c, ↓idxN_c, ↓reduceIte, B1, List.length_cons, List.length_nil, List.mem_cons, List.not_mem_nil, or_false, true_or, or_true, true_and, and_true, and_self, not_true_eq_false, not_false_eq_true, eq_self, ne_eq, Nat.zero_le, Nat.le_refl, Nat.reduceAdd, Nat.reduceSub, Nat.reduceEqDiff, Nat.reduceLeDiff, Int32.reduceLT, Int32.reduceLE, Int32.reduceAdd, Int32.reduceSub, Int32.reduceMul, Int32.reduceToNatClampNeg, Int32.reduceOfNat, Int32.reduceOfInt, Int64.reduceLT, Int64.reduceAdd, Int64.reduceSub, Int64.reduceMul, String.reduceEq, reduceCtorEq, room_c, room_s, sm]
    refine r0 300 ?_
    simp only [↓S0, ↓B0, ↓idx_c, ↓setN_c, ↓idxN_c, ↓reduceIte, B1, List.length_cons, List.length_nil, List.mem_cons, List.not_mem_nil, or_false, true_or, or_true, true_and, and_true, and_self, not_true_eq_false, not_false_eq_true, eq_self, ne_eq, Nat.zero_le, Nat.le_refl, Nat.reduceAdd, Nat.reduceSub, Nat.reduceEqDiff, Nat.reduceLeDiff, Int32.reduceLT, Int32.reduceLE, Int32.reduceAdd, Int32.reduceSub, Int32.reduceMul, Int32.reduceToNatClampNeg, Int32.reduceOfNat, Int32.reduceOfInt, Int64.reduceLT, Int64.reduceAdd, Int64.reduceSub, Int64.reduceMul, String.reduceEq, reduceCtorEq, room_c, room_s]
    refine kf0_207 (con2 _ 1 _ _ _ _ _ rfl (by decide)) ?_
    simp only [↓B0, ↓idx_c, ↓setN_c, ↓idxN_c, ↓reduceIte, B1, List.length_cons, List.length_nil, List.mem_cons, List.not_mem_nil, or_false, true_or, or_true, true_and, and_true, and_self, not_true_eq_false, not_false_eq_true, eq_self, ne_eq, Nat.zero_le, Nat.le_refl, Nat.reduceAdd, Nat.reduceSub, Nat.reduceEqDiff, Nat.reduceLeDiff, Int32.reduceLT, Int32.reduceLE, Int32.reduceAdd, Int32.reduceSub, Int32.reduceMul, Int32.reduceToNatClampNeg, Int32.reduceOfNat, Int32.reduceOfInt, Int64.reduceLT, Int64.reduceAdd, Int64.reduceSub, Int64.reduceMul, String.reduceEq, reduceCtorEq, room_c, room_s, sm]
    refine r0 300 ?_
    simp only [↓S0, ↓B0, ↓idx_c, ↓setN_c, ↓idxN_c, ↓reduceIte, B1, List.length_cons, List.length_nil, List.mem_cons, List.not_mem_nil, or_false, true_or, or_true, true_and, and_true, and_self, not_true_eq_false, not_false_eq_true, eq_self, ne_eq, Nat.zero_le, Nat.le_refl, Nat.reduceAdd, Nat.reduceSub, Nat.reduceEqDiff, Nat.reduceLeDiff, Int32.reduceLT, Int32.reduceLE, Int32.reduceAdd, Int32.reduceSub, Int32.reduceMul, Int32.reduceToNatClampNeg, Int32.reduceOfNat, Int32.reduceOfInt, Int64.reduceLT, Int64.reduceAdd, Int64.reduceSub, Int64.reduceMul, String.reduceEq, reduceCtorEq, room_c, room_s]
    refine kf0_235 (con2 _ 2 _ _ _ _ _ rfl (by decide)) ?_
    simp only [↓B0, ↓idx_c, ↓setN_c, ↓idxN_c, ↓reduceIte, B1, List.length_cons, List.length_nil, List.mem_cons, List.not_mem_nil, or_false, true_or, or_true, true_and, and_true, and_self, not_true_eq_false, not_false_eq_true, eq_self, ne_eq, Nat.zero_le, Nat.le_refl, Nat.reduceAdd, Nat.reduceSub, Nat.reduceEqDiff, Nat.reduceLeDiff, Int32.reduceLT, Int32.reduceLE, Int32.reduceAdd, Int32.reduceSub, Int32.reduceMul, Int32.reduceToNatClampNeg, Int32.reduceOfNat, Int32.reduceOfInt, Int64.reduceLT, Int64.reduceAdd, Int64.reduceSub, Int64.reduceMul, String.reduceEq, reduceCtorEq, room_c, room_s, sm, t0]
    refine r0 300 ?_
    simp only [↓S0, ↓B0, ↓idx_c, ↓setN_c, ↓idxN_c, ↓reduceIte, B1, List.length_cons, List.length_nil, List.mem_cons, List.not_mem_nil, or_false, true_or, or_true, true_and, and_true, and_self, not_true_eq_false, not_false_eq_true, eq_self, ne_eq, Nat.zero_le, Nat.le_refl, Nat.reduceAdd, Nat.reduceSub, Nat.reduceEqDiff, Nat.reduceLeDiff, Int32.reduceLT, Int32.reduceLE, Int32.reduceAdd, Int32.reduceSub, Int32.reduceMul, Int32.reduceToNatClampNeg, Int32.reduceOfNat, Int32.reduceOfInt, Int64.reduceLT, Int64.reduceAdd, Int64.reduceSub, Int64.reduceMul, String.reduceEq, reduceCtorEq, room_c, room_s]
    refine kf0_263 (con2 _ 3 _ _ _ _ _ rfl (by decide)) ?_
    simp only [↓B0, ↓idx_c, ↓setN_c, ↓idxN_c, ↓reduceIte, B1, List.length_cons, List.length_nil, List.mem_cons, List.not_mem_nil, or_false, true_or, or_true, true_and, and_true, and_self, not_true_eq_false, not_false_eq_true, eq_self, ne_eq, Nat.zero_le, Nat.le_refl, Nat.reduceAdd, Nat.reduceSub, Nat.reduceEqDiff, Nat.reduceLeDiff, Int32.reduceLT, Int32.reduceLE, Int32.reduceAdd, Int32.reduceSub, Int32.reduceMul, Int32.reduceToNatClampNeg, Int32.reduceOfNat, Int32.reduceOfInt, Int64.reduceLT, Int64.reduceAdd, Int64.reduceSub, Int64.reduceMul, String.reduceEq, reduceCtorEq, room_c, room_s, sm]
    refine r0 300 ?_
    simp only [↓S0, ↓B0, ↓idx_c, ↓setN_c, ↓idxN_c, ↓reduceIte, B1, List.length_cons, List.length_nil, List.mem_cons, List.not_mem_nil, or_false, true_or, or_true, true_and, and_true, and_self, not_true_eq_false, not_false_eq_true, eq_self, ne_eq, Nat.zero_le, Nat.le_refl, Nat.reduceAdd, Nat.reduceSub, Nat.reduceEqDiff, Nat.reduceLeDiff, Int32.reduceLT, Int32.reduceLE, Int32.reduceAdd, Int32.reduceSub, Int32.reduceMul, Int32.reduceToNatClampNeg, Int32.reduceOfNat, Int32.reduceOfInt, Int64.reduceLT, Int64.reduceAdd, Int64.reduceSub, Int64.reduceMul, String.reduceEq, reduceCtorEq, room_c, room_s]
    refine kf0_291 (con2 _ 4 _ _ _ _ _ rfl (by decide)) ?_
    simp only [↓B0, ↓idx_c, ↓setN_c, ↓idxN_c, ↓reduceIte, B1, List.length_cons, List.length_nil, List.mem_cons, List.not_mem_nil, or_false, true_or, or_true, true_and, and_true, and_self, not_true_eq_false, not_false_eq_true, eq_self, ne_eq, Nat.zero_le, Nat.le_refl, Nat.reduceAdd, Nat.reduceSub, Nat.reduceEqDiff, Nat.reduceLeDiff, Int32.reduceLT, Int32.reduceLE, Int32.reduceAdd, Int32.reduceSub, Int32.reduceMul, Int32.reduceToNatClampNeg, Int32.reduceOfNat, Int32.reduceOfInt, Int64.reduceLT, Int64.reduceAdd, Int64.reduceSub, Int64.reduceMul, String.reduceEq, reduceCtorEq, room_c, room_s, sm]
    refine r0 300 ?_
    simp only [↓S0, ↓B0, ↓idx_c, ↓setN_c, ↓idxN_c, ↓reduceIte, B1, List.length_cons, List.length_nil, List.mem_cons, List.not_mem_nil, or_false, true_or, or_true, true_and, and_true, and_self, not_true_eq_false, not_false_eq_true, eq_self, ne_eq, Nat.zero_le, Nat.le_refl, Nat.reduceAdd, Nat.reduceSub, Nat.reduceEqDiff, Nat.reduceLeDiff, Int32.reduceLT, Int32.reduceLE, Int32.reduceAdd, Int32.reduceSub, Int32.reduceMul, Int32.reduceToNatClampNeg, Int32.reduceOfNat, Int32.reduceOfInt, Int64.reduceLT, Int64.reduceAdd, Int64.reduceSub, Int64.reduceMul, String.reduceEq, reduceCtorEq, room_c, room_s]
    refine kf0_319 (con2 _ 5 _ _ _ _ _ rfl (by decide)) ?_
    simp only [↓B0, ↓idx_c, ↓setN_c, ↓idxN_c, ↓reduceIte, B1, List.length_cons, List.length_nil, List.mem_cons, List.not_mem_nil, or_false, true_or, or_true, true_and, and_true, and_self, not_true_eq_false, not_false_eq_true, eq_self, ne_eq, Nat.zero_le, Nat.le_refl, Nat.reduceAdd, Nat.reduceSub, Nat.reduceEqDiff, Nat.reduceLeDiff, Int32.reduceLT, Int32.reduceLE, Int32.reduceAdd, Int32.reduceSub, Int32.reduceMul, Int32.reduceToNatClampNeg, Int32.reduceOfNat, Int32.reduceOfInt, Int64.reduceLT, Int64.reduceAdd, Int64.reduceSub, Int64.reduceMul, String.reduceEq, reduceCtorEq, room_c, room_s, sm]
    refine r0 300 ?_
    simp only [↓S0, ↓B0, ↓idx_c, ↓setN_c, ↓idxN_c, ↓reduceIte, B1, List.length_cons, List.length_nil, List.mem_cons, List.not_mem_nil, or_false, true_or, or_true, true_and, and_true, and_self, not_true_eq_false, not_false_eq_true, eq_self, ne_eq, Nat.zero_le, Nat.le_refl, Nat.reduceAdd, Nat.reduceSub, Nat.reduceEqDiff, Nat.reduceLeDiff, Int32.reduceLT, Int32.reduceLE, Int32.reduceAdd, Int32.reduceSub, Int32.reduceMul, Int32.reduceToNatClampNeg, Int32.reduceOfNat, Int32.reduceOfInt, Int64.reduceLT, Int64.reduceAdd, Int64.reduceSub, Int64.reduceMul, String.reduceEq, reduceCtorEq, room_c, room_s]
    refine kf0_348 (con2 _ 6 _ _ _ _ _ rfl (by decide)) ?_
    simp only [↓B0, ↓idx_c, ↓setN_c, ↓idxN_c, ↓reduceIte, B1, List.length_cons, List.length_nil, List.mem_cons, List.not_mem_nil, or_false, true_or, or_true, true_and, and_true, and_self, not_true_eq_false, not_false_eq_true, eq_self, ne_eq, Nat.zero_le, Nat.le_refl, Nat.reduceAdd, Nat.reduceSub, Nat.reduceEqDiff, Nat.reduceLeDiff, Int32.reduceLT, Int32.reduceLE, Int32.reduceAdd, Int32.reduceSub, Int32.reduceMul, Int32.reduceToNatClampNeg, Int32.reduceOfNat, Int32.reduceOfInt, Int64.reduceLT, Int64.reduceAdd, Int64.reduceSub, Int64.reduceMul, String.reduceEq, reduceCtorEq, room_c, room_s, sm]
    refine r0 300 ?_
    simp only [↓S0, ↓B0, ↓idx_c, ↓setN_c, ↓idxN_c, ↓reduceIte, B1, List.length_cons, List.length_nil, List.mem_cons, List.not_mem_nil, or_false, true_or, or_true, true_and, and_true, and_self, not_true_eq_false, not_false_eq_true, eq_self, ne_eq, Nat.zero_le, Nat.le_refl, Nat.reduceAdd, Nat.reduceSub, Nat.reduceEqDiff, Nat.reduceLeDiff, Int32.reduceLT, Int32.reduceLE, Int32.reduceAdd, Int32.reduceSub, Int32.reduceMul, Int32.reduceToNatClampNeg, Int32.reduceOfNat, Int32.reduceOfInt, Int64.reduceLT, Int64.reduceAdd, Int64.reduceSub, Int64.reduceMul, String.reduceEq, reduceCtorEq, room_c, room_s]
    refine kf0_377 (con2 _ 7 _ _ _ _ _ rfl (by decide)) ?_
    simp only [↓B0, ↓idx_c, ↓setN_c, ↓idxN_c, ↓reduceIte, B1, List.length_cons, List.length_nil, List.mem_cons, List.not_mem_nil, or_false, true_or, or_true, true_and, and_true, and_self, not_true_eq_false, not_false_eq_true, eq_self, ne_eq, Nat.zero_le, Nat.le_refl, Nat.reduceAdd, Nat.reduceSub, Nat.reduceEqDiff, Nat.reduceLeDiff, Int32.reduceLT, Int32.reduceLE, Int32.reduceAdd, Int32.reduceSub, Int32.reduceMul, Int32.reduceToNatClampNeg, Int32.reduceOfNat, Int32.reduceOfInt, Int64.reduceLT, Int64.reduceAdd, Int64.reduceSub, Int64.reduceMul, String.reduceEq, reduceCtorEq, room_c, room_s, sm]
    refine r0 300 ?_
    simp only [↓S0, ↓B0, ↓idx_c, ↓setN_c, ↓idxN_c, ↓reduceIte, B1, List.length_cons, List.length_nil, List.mem_cons, List.not_mem_nil, or_false, true_or, or_true, true_and, and_true, and_self, not_true_eq_false, not_false_eq_true, eq_self, ne_eq, Nat.zero_le, Nat.le_refl, Nat.reduceAdd, Nat.reduceSub, Nat.reduceEqDiff, Nat.reduceLeDiff, Int32.reduceLT, Int32.reduceLE, Int32.reduceAdd, Int32.reduceSub, Int32.reduceMul, Int32.reduceToNatClampNeg, Int32.reduceOfNat, Int32.reduceOfInt, Int64.reduceLT, Int64.reduceAdd, Int64.reduceSub, Int64.reduceMul, String.reduceEq, reduceCtorEq, room_c, room_s]
    refine kf0_406 (con2 _ 8 _ _ _ _ _ rfl (by decide)) ?_
    simp only [↓B0, ↓idx_c, ↓setN_c, ↓idxN_c, ↓reduceIte, B1, List.length_cons, List.length_nil, List.mem_cons, List.not_mem_nil, or_false, true_or, or_true, true_and, and_true, and_self, not_true_eq_false, not_false_eq_true, eq_self, ne_eq, Nat.zero_le, Nat.le_refl, Nat.reduceAdd, Nat.reduceSub, Nat.reduceEqDiff, Nat.reduceLeDiff, Int32.reduceLT, Int32.reduceLE, Int32.reduceAdd, Int32.reduceSub, Int32.reduceMul, Int32.reduceToNatClampNeg, Int32.reduceOfNat, Int32.reduceOfInt, Int64.reduceLT, Int64.reduceAdd, Int64.reduceSub, Int64.reduceMul, String.reduceEq, reduceCtorEq, room_c, room_s, sm]
    refine r0 300 ?_
    simp only [↓S0, ↓B0, ↓idx_c, ↓setN_c, ↓idxN_c, ↓reduceIte, B1, List.length_cons, List.length_nil, List.mem_cons, List.not_mem_nil, or_false, true_or, or_true, true_and, and_true, and_self, not_true_eq_false, not_false_eq_true, eq_self, ne_eq, Nat.zero_le, Nat.le_refl, Nat.reduceAdd, Nat.reduceSub, Nat.reduceEqDiff, Nat.reduceLeDiff, Int32.reduceLT, Int32.reduceLE, Int32.reduceAdd, Int32.reduceSub, Int32.reduceMul, Int32.reduceToNatClampNeg, Int32.reduceOfNat, Int32.reduceOfInt, Int64.reduceLT, Int64.reduceAdd, Int64.reduceSub, Int64.reduceMul, String.reduceEq, reduceCtorEq, room_c, room_s]
    refine kf0_435 (con2 _ 9 _ _ _ _ _ rfl (by decide)) ?_
    simp only [↓B0, ↓idx_c, ↓setN_c, ↓idxN_c, ↓reduceIte, B1, List.length_cons, List.length_nil, List.mem_cons, List.not_mem_nil, or_false, true_or, or_true, true_and, and_true, and_self, not_true_eq_false, not_false_eq_true, eq_self, ne_eq, Nat.zero_le, Nat.le_refl, Nat.reduceAdd, Nat.reduceSub, Nat.reduceEqDiff, Nat.reduceLeDiff, Int32.reduceLT, Int32.reduceLE, Int32.reduceAdd, Int32.reduceSub, Int32.reduceMul, Int32.reduceToNatClampNeg, Int32.reduceOfNat, Int32.reduceOfInt, Int64.reduceLT, Int64.reduceAdd, Int64.reduceSub, Int64.reduceMul, String.reduceEq, reduceCtorEq, room_c, room_s, sm]
    refine r0 300 ?_
    simp only [↓S0, ↓B0, ↓idx_c, ↓setN_c, ↓idxN_c, ↓reduceIte, B1, List.length_cons, List.length_nil, List.mem_cons, List.not_mem_nil, or_false, true_or, or_true, true_and, and_true, and_self, not_true_eq_false, not_false_eq_true, eq_self, ne_eq, Nat.zero_le, Nat.le_refl, Nat.reduceAdd, Nat.reduceSub, Nat.reduceEqDiff, Nat.reduceLeDiff, Int32.reduceLT, Int32.reduceLE, Int32.reduceAdd, Int32.reduceSub, Int32.reduceMul, Int32.reduceToNatClampNeg, Int32.reduceOfNat, Int32.reduceOfInt, Int64.reduceLT, Int64.reduceAdd, Int64.reduceSub, Int64.reduceMul, String.reduceEq, reduceCtorEq, room_c, room_s]
  · obtain ⟨h0, h1, c1, c2, t0, t1⟩ := facts_2 i0 (by omega) (by omega)
    refine r0 300 ?_
    simp only [↓S0, ↓B0, ↓idx_c, ↓setN_c, ↓idxN_c, ↓reduceIte, B1, List.length_cons, List.length_nil, List.mem_cons, List.not_mem_nil, or_false, true_or, or_true, true_and, and_true, and_self, not_true_eq_false, not_false_eq_true, eq_self, ne_eq, Nat.zero_le, Nat.le_refl, Nat.reduceAdd, Nat.reduceSub, Nat.reduceEqDiff, Nat.reduceLeDiff, Int32.reduceLT, Int32.reduceLE, Int32.reduceAdd, Int32.reduceSub, Int32.reduceMul, Int32.reduceToNatClampNeg, Int32.reduceOfNat, Int32.reduceOfInt, Int64.reduceLT, Int64.reduceAdd, Int64.reduceSub, Int64.reduceMul, String.reduceEq, reduceCtorEq, room_c, room_s, hv]
    refine kf0_72 (con1_2_2 (nar .byte i2) i0 h0 h1) (r0 300 ?_)
    simp only [↓S0, ↓B0, ↓idx_c, ↓setN_c, ↓idxN_c, ↓reduceIte, B1, List.length_cons, List.length_nil, List.mem_cons, List.not_mem_nil, or_false, true_or, or_true, true_and, and_true, and_self, not_true_eq_false, not_false_eq_true, eq_self, ne_eq, Nat.zero_le, Nat.le_refl, Nat.reduceAdd, Nat.reduceSub, Nat.reduceEqDiff, Nat.reduceLeDiff, Int32.reduceLT, Int32.reduceLE, Int32.reduceAdd, Int32.reduceSub, Int32.reduceMul, Int32.reduceToNatClampNeg, Int32.reduceOfNat, Int32.reduceOfInt, Int64.reduceLT, Int64.reduceAdd, Int64.reduceSub, Int64.reduceMul, String.reduceEq, reduceCtorEq, room_c, room_s, c1, c2]
    refine kf0_179 (con2 _ 0 _ _ _ _ _ rfl (by decide)) ?_
    simp only [↓B0, ↓idx_c, ↓setN_c, ↓idxN_c, ↓reduceIte, B1, List.length_cons, List.length_nil, List.mem_cons, List.not_mem_nil, or_false, true_or, or_true, true_and, and_true, and_self, not_true_eq_false, not_false_eq_true, eq_self, ne_eq, Nat.zero_le, Nat.le_refl, Nat.reduceAdd, Nat.reduceSub, Nat.reduceEqDiff, Nat.reduceLeDiff, Int32.reduceLT, Int32.reduceLE, Int32.reduceAdd, Int32.reduceSub, Int32.reduceMul, Int32.reduceToNatClampNeg, Int32.reduceOfNat, Int32.reduceOfInt, Int64.reduceLT, Int64.reduceAdd, Int64.reduceSub, Int64.reduceMul, String.reduceEq, reduceCtorEq, room_c, room_s, sm]
    refine r0 300 ?_
    simp only [↓S0, ↓B0, ↓idx_c, ↓setN_c, ↓idxN_c, ↓reduceIte, B1, List.length_cons, List.length_nil, List.mem_cons, List.not_mem_nil, or_false, true_or, or_true, true_and, and_true, and_self, not_true_eq_false, not_false_eq_true, eq_self, ne_eq, Nat.zero_le, Nat.le_refl, Nat.reduceAdd, Nat.reduceSub, Nat.reduceEqDiff, Nat.reduceLeDiff, Int32.reduceLT, Int32.reduceLE, Int32.reduceAdd, Int32.reduceSub, Int32.reduceMul, Int32.reduceToNatClampNeg, Int32.reduceOfNat, Int32.reduceOfInt, Int64.reduceLT, Int64.reduceAdd, Int64.reduceSub, Int64.reduceMul, String.reduceEq, reduceCtorEq, room_c, room_s]
    refine kf0_207 (con2 _ 1 _ _ _ _ _ rfl (by decide)) ?_
    simp only [↓B0, ↓idx_c, ↓setN_c, ↓idxN_c, ↓reduceIte, B1, List.length_cons, List.length_nil, List.mem_cons, List.not_mem_nil, or_false, true_or, or_true, true_and, and_true, and_self, not_true_eq_false, not_false_eq_true, eq_self, ne_eq, Nat.zero_le, Nat.le_refl, Nat.reduceAdd, Nat.reduceSub, Nat.reduceEqDiff, Nat.reduceLeDiff, Int32.reduceLT, Int32.reduceLE, Int32.reduceAdd, Int32.reduceSub, Int32.reduceMul, Int32.reduceToNatClampNeg, Int32.reduceOfNat, Int32.reduceOfInt, Int64.reduceLT, Int64.reduceAdd, Int64.reduceSub, Int64.reduceMul, String.reduceEq, reduceCtorEq, room_c, room_s, sm]
    refine r0 300 ?_
    simp only [↓S0, ↓B0, ↓idx_c, ↓setN_c, ↓idxN_c, ↓reduceIte, B1, List.length_cons, List.length_nil, List.mem_cons, List.not_mem_nil, or_false, true_or, or_true, true_and, and_true, and_self, not_true_eq_false, not_false_eq_true, eq_self, ne_eq, Nat.zero_le, Nat.le_refl, Nat.reduceAdd, Nat.reduceSub, Nat.reduceEqDiff, Nat.reduceLeDiff, Int32.reduceLT, Int32.reduceLE, Int32.reduceAdd, Int32.reduceSub, Int32.reduceMul, Int32.reduceToNatClampNeg, Int32.reduceOfNat, Int32.reduceOfInt, Int64.reduceLT, Int64.reduceAdd, Int64.reduceSub, Int64.reduceMul, String.reduceEq, reduceCtorEq, room_c, room_s]
    refine kf0_235 (con2 _ 2 _ _ _ _ _ rfl (by decide)) ?_
    simp only [↓B0, ↓idx_c, ↓setN_c, ↓idxN_c, ↓reduceIte, B1, List.length_cons, List.length_nil, List.mem_cons, List.not_mem_nil, or_false, true_or, or_true, true_and, and_true, and_self, not_true_eq_false, not_false_eq_true, eq_self, ne_eq, Nat.zero_le, Nat.le_refl, Nat.reduceAdd, Nat.reduceSub, Nat.reduceEqDiff, Nat.reduceLeDiff, Int32.reduceLT, Int32.reduceLE, Int32.reduceAdd, Int32.reduceSub, Int32.reduceMul, Int32.reduceToNatClampNeg, Int32.reduceOfNat, Int32.reduceOfInt, Int64.reduceLT, Int64.reduceAdd, Int64.reduceSub, Int64.reduceMul, String.reduceEq, reduceCtorEq, room_c, room_s, sm, t0]
    refine r0 300 ?_
    simp only [↓S0, ↓B0, ↓idx_c, ↓setN_c, ↓idxN_c, ↓reduceIte, B1, List.length_cons, List.length_nil, List.mem_cons, List.not_mem_nil, or_false, true_or, or_true, true_and, and_true, and_self, not_true_eq_false, not_false_eq_true, eq_self, ne_eq, Nat.zero_le, Nat.le_refl, Nat.reduceAdd, Nat.reduceSub, Nat.reduceEqDiff, Nat.reduceLeDiff, Int32.reduceLT, Int32.reduceLE, Int32.reduceAdd, Int32.reduceSub, Int32.reduceMul, Int32.reduceToNatClampNeg, Int32.reduceOfNat, Int32.reduceOfInt, Int64.reduceLT, Int64.reduceAdd, Int64.reduceSub, Int64.reduceMul, String.reduceEq, reduceCtorEq, room_c, room_s]
    refine kf0_263 (con2 _ 3 _ _ _ _ _ rfl (by decide)) ?_
    simp only [↓B0, ↓idx_c, ↓setN_c, ↓idxN_c, ↓reduceIte, B1, List.length_cons, List.length_nil, List.mem_cons, List.not_mem_nil, or_false, true_or, or_true, true_and, and_true, and_self, not_true_eq_false, not_false_eq_true, eq_self, ne_eq, Nat.zero_le, Nat.le_refl, Nat.reduceAdd, Nat.reduceSub, Nat.reduceEqDiff, Nat.reduceLeDiff, Int32.reduceLT, Int32.reduceLE, Int32.reduceAdd, Int32.reduceSub, Int32.reduceMul, Int32.reduceToNatClampNeg, Int32.reduceOfNat, Int32.reduceOfInt, Int64.reduceLT, Int64.reduceAdd, Int64.reduceSub, Int64.reduceMul, String.reduceEq, reduceCtorEq, room_c, room_s, sm, t1]
    refine r0 300 ?_
    simp only [↓S0, ↓B0, ↓idx_c, ↓setN_c, ↓idxN_c, ↓reduceIte, B1, List.length_cons, List.length_nil, List.mem_cons, List.not_mem_nil, or_false, true_or, or_true, true_and, and_true, and_self, not_true_eq_false, not_false_eq_true, eq_self, ne_eq, Nat.zero_le, Nat.le_refl, Nat.reduceAdd, Nat.reduceSub, Nat.reduceEqDiff, Nat.reduceLeDiff, Int32.reduceLT, Int32.reduceLE, Int32.reduceAdd, Int32.reduceSub, Int32.reduceMul, Int32.reduceToNatClampNeg, Int32.reduceOfNat, Int32.reduceOfInt, Int64.reduceLT, Int64.reduceAdd, Int64.reduceSub, Int64.reduceMul, String.reduceEq, reduceCtorEq, room_c, room_s]
    refine kf0_291 (con2 _ 4 _ _ _ _ _ rfl (by decide)) ?_
    simp only [↓B0, ↓idx_c, ↓setN_c, ↓idxN_c, ↓reduceIte, B1, List.length_cons, List.length_nil, List.mem_cons, List.not_mem_nil, or_false, true_or, or_true, true_and, and_true, and_self, not_true_eq_false, not_false_eq_true, eq_self, ne_eq, Nat.zero_le, Nat.le_refl, Nat.reduceAdd, Nat.reduceSub, Nat.reduceEqDiff, Nat.reduceLeDiff, Int32.reduceLT, Int32.reduceLE, Int32.reduceAdd, Int32.reduceSub, Int32.reduceMul, Int32.reduceToNatClampNeg, Int32.reduceOfNat, Int32.reduceOfInt, Int64.reduceLT, Int64.reduceAdd, Int64.reduceSub, Int64.reduceMul, String.reduceEq, reduceCtorEq, room_c, room_s, sm]
    refine r0 300 ?_
    simp only [↓S0, ↓B0, ↓idx_c, ↓setN_c, ↓idxN_c, ↓reduceIte, B1, List.length_cons, List.length_nil, List.mem_cons, List.not_mem_nil, or_false, true_or, or_true, true_and, and_true, and_self, not_true_eq_false, not_false_eq_true, eq_self, ne_eq, Nat.zero_le, Nat.le_refl, Nat.reduceAdd, Nat.reduceSub, Nat.reduceEqDiff, Nat.reduceLeDiff, Int32.reduceLT, Int32.reduceLE, Int32.reduceAdd, Int32.reduceSub, Int32.reduceMul, Int32.reduceToNatClampNeg, Int32.reduceOfNat, Int32.reduceOfInt, Int64.reduceLT, Int64.reduceAdd, Int64.reduceSub, Int64.reduceMul, String.reduceEq, reduceCtorEq, room_c, room_s]
    refine kf0_319 (con2 _ 5 _ _ _ _ _ rfl (by decide)) ?_
    simp only [↓B0, ↓idx_c, ↓setN_c, ↓idxN_c, ↓reduceIte, B1, List.length_cons, List.length_nil, List.mem_cons, List.not_mem_nil, or_false, true_or, or_true, true_and, and_true, and_self, not_true_eq_false, not_false_eq_true, eq_self, ne_eq, Nat.zero_le, Nat.le_refl, Nat.reduceAdd, Nat.reduceSub, Nat.reduceEqDiff, Nat.reduceLeDiff, Int32.reduceLT, Int32.reduceLE, Int32.reduceAdd, Int32.reduceSub, Int32.reduceMul, Int32.reduceToNatClampNeg, Int32.reduceOfNat, Int32.reduceOfInt, Int64.reduceLT, Int64.reduceAdd, Int64.reduceSub, Int64.reduceMul, String.reduceEq, reduceCtorEq, room_c, room_s, sm]
    refine r0 300 ?_
    simp only [↓S0, ↓B0, ↓idx_c, ↓setN_c, ↓idxN_c, ↓reduceIte, B1, List.length_cons, List.length_nil, List.mem_cons, List.not_mem_nil, or_false, true_or, or_true, true_and, and_true, and_self, not_true_eq_false, not_false_eq_true, eq_self, ne_eq, Nat.zero_le, Nat.le_refl, Nat.reduceAdd, Nat.reduceSub, Nat.reduceEqDiff, Nat.reduceLeDiff, Int32.reduceLT, Int32.reduceLE, Int32.reduceAdd, Int32.reduceSub, Int32.reduceMul, Int32.reduceToNatClampNeg, Int32.reduceOfNat, Int32.reduceOfInt, Int64.reduceLT, Int64.reduceAdd, Int64.reduceSub, Int64.reduceMul, String.reduceEq, reduceCtorEq, room_c, room_s]
    refine kf0_348 (con2 _ 6 _ _ _ _ _ rfl (by decide)) ?_
    simp only [↓B0, ↓idx_c, ↓setN_c, ↓idxN_c, ↓reduceIte, B1, List.length_cons, List.length_nil, List.mem_cons, List.not_mem_nil, or_false, true_or, or_true, true_and, and_true, and_self, not_true_eq_false, not_false_eq_true, eq_self, ne_eq, Nat.zero_le, Nat.le_refl, Nat.reduceAdd, Nat.reduceSub, Nat.reduceEqDiff, Nat.reduceLeDiff, Int32.reduceLT, Int32.reduceLE, Int32.reduceAdd, Int32.reduceSub, Int32.reduceMul, Int32.reduceToNatClampNeg, Int32.reduceOfNat, Int32.reduceOfInt, Int64.reduceLT, Int64.reduceAdd, Int64.reduceSub, Int64.reduceMul, String.reduceEq, reduceCtorEq, room_c, room_s, sm]
    refine r0 300 ?_
    simp only [↓S0, ↓B0, ↓idx_c, ↓setN_c, ↓idxN_c, ↓reduceIte, B1, List.length_cons, List.length_nil, List.mem_cons, List.not_mem_nil, or_false, true_or, or_true, true_and, and_true, and_self, not_true_eq_false, not_false_eq_true, eq_self, ne_eq, Nat.zero_le, Nat.le_refl, Nat.reduceAdd, Nat.reduceSub, Nat.reduceEqDiff, Nat.reduceLeDiff, Int32.reduceLT, Int32.reduceLE, Int32.reduceAdd, Int32.reduceSub, Int32.reduceMul, Int32.reduceToNatClampNeg, Int32.reduceOfNat, Int32.reduceOfInt, Int64.reduceLT, Int64.reduceAdd, Int64.reduceSub, Int64.reduceMul, String.reduceEq, reduceCtorEq, room_c, room_s]
    refine kf0_377 (con2 _ 7 _ _ _ _ _ rfl (by decide)) ?_
    simp only [↓B0, ↓idx_c, ↓setN_c, ↓idxN_c, ↓reduceIte, B1, List.length_cons, List.length_nil, List.mem_cons, List.not_mem_nil, or_false, true_or, or_true, true_and, and_true, and_self, not_true_eq_false, not_false_eq_true, eq_self, ne_eq, Nat.zero_le, Nat.le_refl, Nat.reduceAdd, Nat.reduceSub, Nat.reduceEqDiff, Nat.reduceLeDiff, Int32.reduceLT, Int32.reduceLE, Int32.reduceAdd, Int32.reduceSub, Int32.reduceMul, Int32.reduceToNatClampNeg, Int32.reduceOfNat, Int32.reduceOfInt, Int64.reduceLT, Int64.reduceAdd, Int64.reduceSub, Int64.reduceMul, String.reduceEq, reduceCtorEq, room_c, room_s, sm]
    refine r0 300 ?_
    simp only [↓S0, ↓B0, ↓idx_c, ↓setN_c, ↓idxN_c, ↓reduceIte, B1, List.length_cons, List.length_nil, List.mem_cons, List.not_mem_nil, or_false, true_or, or_true, true_and, and_true, and_self, not_true_eq_false, not_false_eq_true, eq_self, ne_eq, Nat.zero_le, Nat.le_refl, Nat.reduceAdd, Nat.reduceSub, Nat.reduceEqDiff, Nat.reduceLeDiff, Int32.reduceLT, Int32.reduceLE, Int32.reduceAdd, Int32.reduceSub, Int32.reduceMul, Int32.reduceToNatClampNeg, Int32.reduceOfNat, Int32.reduceOfInt, Int64.reduceLT, Int64.reduceAdd, Int64.reduceSub, Int64.reduceMul, String.reduceEq, reduceCtorEq, room_c, room_s]
    refine kf0_406 (con2 _ 8 _ _ _ _ _ rfl (by decide)) ?_
    simp only [↓B0, ↓idx_c, ↓setN_c, ↓idxN_c, ↓reduceIte, B1, List.length_cons, List.length_nil, List.mem_cons, List.not_mem_nil, or_false, true_or, or_true, true_and, and_true, and_self, not_true_eq_false, not_false_eq_true, eq_self, ne_eq, Nat.zero_le, Nat.le_refl, Nat.reduceAdd, Nat.reduceSub, Nat.reduceEqDiff, Nat.reduceLeDiff, Int32.reduceLT, Int32.reduceLE, Int32.reduceAdd, Int32.reduceSub, Int32.reduceMul, Int32.reduceToNatClampNeg, Int32.reduceOfNat, Int32.reduceOfInt, Int64.reduceLT, Int64.reduceAdd, Int64.reduceSub, Int64.reduceMul, String.reduceEq, reduceCtorEq, room_c, room_s, sm]
    refine r0 300 ?_
    simp only [↓S0, ↓B0, ↓idx_c, ↓setN_c, ↓idxN_c, ↓reduceIte, B1, List.length_cons, List.length_nil, List.mem_cons, List.not_mem_nil, or_false, true_or, or_true, true_and, and_true, and_self, not_true_eq_false, not_false_eq_true, eq_self, ne_eq, Nat.zero_le, Nat.le_refl, Nat.reduceAdd, Nat.reduceSub, Nat.reduceEqDiff, Nat.reduceLeDiff, Int32.reduceLT, Int32.reduceLE, Int32.reduceAdd, Int32.reduceSub, Int32.reduceMul, Int32.reduceToNatClampNeg, Int32.reduceOfNat, Int32.reduceOfInt, Int64.reduceLT, Int64.reduceAdd, Int64.reduceSub, Int64.reduceMul, String.reduceEq, reduceCtorEq, room_c, room_s]
    refine kf0_435 (con2 _ 9 _ _ _ _ _ rfl (by decide)) ?_
    simp only [↓B0, ↓idx_c, ↓setN_c, ↓idxN_c, ↓reduceIte, B1, List.length_cons, List.length_nil, List.mem_cons, List.not_mem_nil, or_false, true_or, or_true, true_and, and_true, and_self, not_true_eq_false, not_false_eq_true, eq_self, ne_eq, Nat.zero_le, Nat.le_refl, Nat.reduceAdd, Nat.reduceSub, Nat.reduceEqDiff, Nat.reduceLeDiff, Int32.reduceLT, Int32.reduceLE, Int32.reduceAdd, Int32.reduceSub, Int32.reduceMul, Int32.reduceToNatClampNeg, Int32.reduceOfNat, Int32.reduceOfInt, Int64.reduceLT, Int64.reduceAdd, Int64.reduceSub, Int64.reduceMul, String.reduceEq, reduceCtorEq, room_c, room_s, sm]
    refine r0 300 ?_
    simp only [↓S0, ↓B0, ↓idx_c, ↓setN_c, ↓idxN_c, ↓reduceIte, B1, List.length_cons, List.length_nil, List.mem_cons, List.not_mem_nil, or_false, true_or, or_true, true_and, and_true, and_self, not_true_eq_false, not_false_eq_true, eq_self, ne_eq, Nat.zero_le, Nat.le_refl, Nat.reduceAdd, Nat.reduceSub, Nat.reduceEqDiff, Nat.reduceLeDiff, Int32.reduceLT, Int32.reduceLE, Int32.reduceAdd, Int32.reduceSub, Int32.reduceMul, Int32.reduceToNatClampNeg, Int32.reduceOfNat, Int32.reduceOfInt, Int64.reduceLT, Int64.reduceAdd, Int64.reduceSub, Int64.reduceMul, String.reduceEq, reduceCtorEq, room_c, room_s]
  · obtain ⟨h0, h1, h2, c1, c2, c3, t0, t1, t2⟩ := facts_3 i0 (by omega) (by omega)
    refine r0 300 ?_
    simp only [↓S0, ↓B0, ↓idx_c, ↓setN_c, ↓idxN_c, ↓reduceIte, B1, List.length_cons, List.length_nil, List.mem_cons, List.not_mem_nil, or_false, true_or, or_true, true_and, and_true, and_self, not_true_eq_false, not_false_eq_true, eq_self, ne_eq, Nat.zero_le, Nat.le_refl, Nat.reduceAdd, Nat.reduceSub, Nat.reduceEqDiff, Nat.reduceLeDiff, Int32.reduceLT, Int32.reduceLE, Int32.reduceAdd, Int32.reduceSub, Int32.reduceMul, Int32.reduceToNatClampNeg, Int32.reduceOfNat, Int32.reduceOfInt, Int64.reduceLT, Int64.reduceAdd, Int64.reduceSub, Int64.reduceMul, String.reduceEq, reduceCtorEq, room_c, room_s, hv]
    refine kf0_72 (con1_2_3 (nar .byte i2) i0 h0 h1 h2) (r0 300 ?_)
    simp only [↓S0, ↓B0, ↓idx_c, ↓setN_c, ↓idxN_c, ↓reduceIte, B1, List.length_cons, List.length_nil, List.mem_cons, List.not_mem_nil, or_false, true_or, or_true, true_and, and_true, and_self, not_true_eq_false, not_false_eq_true, eq_self, ne_eq, Nat.zero_le, Nat.le_refl, Nat.reduceAdd, Nat.reduceSub, Nat.reduceEqDiff, Nat.reduceLeDiff, Int32.reduceLT, Int32.reduceLE, Int32.reduceAdd, Int32.reduceSub, Int32.reduceMul, Int32.reduceToNatClampNeg, Int32.reduceOfNat, Int32.reduceOfInt, Int64.reduceLT, Int64.reduceAdd, Int64.reduceSub, Int64.reduceMul, String.reduceEq, reduceCtorEq, room_c, room_s, c1, c2, c3]
    refine kf0_179 (con2 _ 0 _ _ _ _ _ rfl (by decide)) ?_
    simp only [↓B0, ↓idx_c, ↓setN_c, ↓idxN_c, ↓reduceIte, B1, List.length_cons, List.length_nil, List.mem_cons, List.not_mem_nil, or_false, true_or, or_true, true_and, and_true, and_self, not_true_eq_false, not_false_eq_true, eq_self, ne_eq, Nat.zero_le, Nat.le_refl, Nat.reduceAdd, Nat.reduceSub, Nat.reduceEqDiff, Nat.reduceLeDiff, Int32.reduceLT, Int32.reduceLE, Int32.reduceAdd, Int32.reduceSub, Int32.reduceMul, Int32.reduceToNatClampNeg, Int32.reduceOfNat, Int32.reduceOfInt, Int64.reduceLT, Int64.reduceAdd, Int64.reduceSub, Int64.reduceMul, String.reduceEq, reduceCtorEq, room_c, room_s, sm]
    refine r0 300 ?_
    simp only [↓S0, ↓B0, ↓idx_c, ↓setN_c, ↓idxN_c, ↓reduceIte, B1, List.length_cons, List.length_nil, List.mem_cons, List.not_mem_nil, or_false, true_or, or_true, true_and, and_true, and_self, not_true_eq_false, not_false_eq_true, eq_self, ne_eq, Nat.zero_le, Nat.le_refl, Nat.reduceAdd, Nat.reduceSub, Nat.reduceEqDiff, Nat.reduceLeDiff, Int32.reduceLT, Int32.reduceLE, Int32.reduceAdd, Int32.reduceSub, Int32.reduceMul, Int32.reduceToNatClampNeg, Int32.reduceOfNat, Int32.reduceOfInt, Int64.reduceLT, Int64.reduceAdd, Int64.reduceSub, Int64.reduceMul, String.reduceEq, reduceCtorEq, room_c, room_s]
    refine kf0_207 (con2 _ 1 _ _ _ _ _ rfl (by decide)) ?_
    simp only [↓B0, ↓idx_c, ↓setN_c, ↓idxN_c, ↓reduceIte, B1, List.length_cons, List.length_nil, List.mem_cons, List.not_mem_nil, or_false, true_or, or_true, true_and, and_true, and_self, not_true_eq_false, not_false_eq_true, eq_self, ne_eq, Nat.zero_le, Nat.le_refl, Nat.reduceAdd, Nat.reduceSub, Nat.reduceEqDiff, Nat.reduceLeDiff, Int32.reduceLT, Int32.reduceLE, Int32.reduceAdd, Int32.reduceSub, Int32.reduceMul, Int32.reduceToNatClampNeg, Int32.reduceOfNat, Int32.reduceOfInt, Int64.reduceLT, Int64.reduceAdd, Int64.reduceSub, Int64.reduceMul, String.reduceEq, reduceCtorEq, room_c, room_s, sm]
    refine r0 300 ?_
    simp only [↓S0, ↓B0, ↓idx_c, ↓setN_c, ↓idxN_c, ↓reduceIte, B1, List.length_cons, List.length_nil, List.mem_cons, List.not_mem_nil, or_false, true_or, or_true, true_and, and_true, and_self, not_true_eq_false, not_false_eq_true, eq_self, ne_eq, Nat.zero_le, Nat.le_refl, Nat.reduceAdd, Nat.reduceSub, Nat.reduceEqDiff, Nat.reduceLeDiff, Int32.reduceLT, Int32.reduceLE, Int32.reduceAdd, Int32.reduceSub, Int32.reduceMul, Int32.reduceToNatClampNeg, Int32.reduceOfNat, Int32.reduceOfInt, Int64.reduceLT, Int64.reduceAdd, Int64.reduceSub, Int64.reduceMul, String.reduceEq, reduceCtorEq, room_c, room_s]
    refine kf0_235 (con2 _ 2 _ _ _ _ _ rfl (by decide)) ?_
    simp only [↓B0, ↓idx_c, ↓setN_c, ↓idxN_c, ↓reduceIte, B1, List.length_cons, List.length_nil, List.mem_cons, List.not_mem_nil, or_false, true_or, or_true, true_and, and_true, and_self, not_true_eq_false, not_false_eq_true, eq_self, ne_eq, Nat.zero_le, Nat.le_refl, Nat.reduceAdd, Nat.reduceSub, Nat.reduceEqDiff, Nat.reduceLeDiff, Int32.reduceLT, Int32.reduceLE, Int32.reduceAdd, Int32.reduceSub, Int32.reduceMul, Int32.reduceToNatClampNeg, Int32.reduceOfNat, Int32.reduceOfInt, Int64.reduceLT, Int64.reduceAdd, Int64.reduceSub, Int64.reduceMul, String.reduceEq, reduceCtorEq, room_c, room_s, sm, t0]
    refine r0 300 ?_
    simp only [↓S0, ↓B0, ↓idx_c, ↓setN_c, ↓idxN_c, ↓reduceIte, B1, List.length_cons, List.length_nil, List.mem_cons, List.not_mem_nil, or_false, true_or, or_true, true_and, and_true, and_self, not_true_eq_false, not_false_eq_true, eq_self, ne_eq, Nat.zero_le, Nat.le_refl, Nat.reduceAdd, Nat.reduceSub, Nat.reduceEqDiff, Nat.reduceLeDiff, Int32.reduceLT, Int32.reduceLE, Int32.reduceAdd, Int32.reduceSub, Int32.reduceMul, Int32.reduceToNatClampNeg, Int32.reduceOfNat, Int32.reduceOfInt, Int64.reduceLT, Int64.reduceAdd, Int64.reduceSub, Int64.reduceMul, String.reduceEq, reduceCtorEq, room_c, room_s]
    refine kf0_263 (con2 _ 3 _ _ _ _ _ rfl (by decide)) ?_
    simp only [↓B0, ↓idx_c, ↓setN_c, ↓idxN_c, ↓reduceIte, B1, List.length_cons, List.length_nil, List.mem_cons, List.not_mem_nil, or_false, true_or, or_true, true_and, and_true, and_self, not_true_eq_false, not_false_eq_true, eq_self, ne_eq, Nat.zero_le, Nat.le_refl, Nat.reduceAdd, Nat.reduceSub, Nat.reduceEqDiff, Nat.reduceLeDiff, Int32.reduceLT, Int32.reduceLE, Int32.reduceAdd, Int32.reduceSub, Int32.reduceMul, Int32.reduceToNatClampNeg, Int32.reduceOfNat, Int32.reduceOfInt, Int64.reduceLT, Int64.reduceAdd, Int64.reduceSub, Int64.reduceMul, String.reduceEq, reduceCtorEq, room_c, room_s, sm, t1]
    refine r0 300 ?_
    simp only [↓S0, ↓B0, ↓idx_c, ↓setN_c, ↓idxN_c, ↓reduceIte, B1, List.length_cons, List.length_nil, List.mem_cons, List.not_mem_nil, or_false, true_or, or_true, true_and, and_true, and_self, not_true_eq_false, not_false_eq_true, eq_self, ne_eq, Nat.zero_le, Nat.le_refl, Nat.reduceAdd, Nat.reduceSub, Nat.reduceEqDiff, Nat.reduceLeDiff, Int32.reduceLT, Int32.reduceLE, Int32.reduceAdd, Int32.reduceSub, Int32.reduceMul, Int32.reduceToNatClampNeg, Int32.reduceOfNat, Int32.reduceOfInt, Int64.reduceLT, Int64.reduceAdd, Int64.reduceSub, Int64.reduceMul, String.reduceEq, reduceCtorEq, room_c, room_s]
    refine kf0_291 (con2 _ 4 _ _ _ _ _ rfl (by decide)) ?_
    simp only [↓B0, ↓idx_c, ↓setN_c, ↓idxN_c, ↓reduceIte, B1, List.length_cons, List.length_nil, List.mem_cons, List.not_mem_nil, or_false, true_or, or_true, true_and, and_true, and_self, not_true_eq_false, not_false_eq_true, eq_self, ne_eq, Nat.zero_le, Nat.le_refl, Nat.reduceAdd, Nat.reduceSub, Nat.reduceEqDiff, Nat.reduceLeDiff, Int32.reduceLT, Int32.reduceLE, Int32.reduceAdd, Int32.reduceSub, Int32.reduceMul, Int32.reduceToNatClampNeg, Int32.reduceOfNat, Int32.reduceOfInt, Int64.reduceLT, Int64.reduceAdd, Int64.reduceSub, Int64.reduceMul, String.reduceEq, reduceCtorEq, room_c, room_s, sm, t2]
    refine r0 300 ?_
    simp only [↓S0, ↓B0, ↓idx_c, ↓setN_c, ↓idxN_c, ↓reduceIte, B1, List.length_cons, List.length_nil, List.mem_cons, List.not_mem_nil, or_false, true_or, or_true, true_and, and_true, and_self, not_true_eq_false, not_false_eq_true, eq_self, ne_eq, Nat.zero_le, Nat.le_refl, Nat.reduceAdd, Nat.reduceSub, Nat.reduceEqDiff, Nat.reduceLeDiff, Int32.reduceLT, Int32.reduceLE, Int32.reduceAdd, Int32.reduceSub, Int32.reduceMul, Int32.reduceToNatClampNeg, Int32.reduceOfNat, Int32.reduceOfInt, Int64.reduceLT, Int64.reduceAdd, Int64.reduceSub, Int64.reduceMul, String.reduceEq, reduceCtorEq, room_c, room_s]
    refine kf0_319 (con2 _ 5 _ _ _ _ _ rfl (by decide)) ?_
    simp only [↓B0, ↓idx_c, ↓setN_c, ↓idxN_c, ↓reduceIte, B1, List.length_cons, List.length_nil, List.mem_cons, List.not_mem_nil, or_false, true_or, or_true, true_and, and_true, and_self, not_true_eq_false, not_false_eq_true, eq_self, ne_eq, Nat.zero_le, Nat.le_refl, Nat.reduceAdd, Nat.reduceSub, Nat.reduceEqDiff, Nat.reduceLeDiff, Int32.reduceLT, Int32.reduceLE, Int32.reduceAdd, Int32.reduceSub, Int32.reduceMul, Int32.reduceToNatClampNeg, Int32.reduceOfNat, Int32.reduceOfInt, Int64.reduceLT, Int64.reduceAdd, Int64.reduceSub, Int64.reduceMul, String.reduceEq, reduceCtorEq, room_c, room_s, sm]
    refine r0 300 ?_
    simp only [↓S0, ↓B0, ↓idx_c, ↓setN_c, ↓idxN_c, ↓reduceIte, B1, List.length_cons, List.length_nil, List.mem_cons, List.not_mem_nil, or_false, true_or, or_true, true_and, and_true, and_self, not_true_eq_false, not_false_eq_true, eq_self, ne_eq, Nat.zero_le, Nat.le_refl, Nat.reduceAdd, Nat.reduceSub, Nat.reduceEqDiff, Nat.reduceLeDiff, Int32.reduceLT, Int32.reduceLE, Int32.reduceAdd, Int32.reduceSub, Int32.reduceMul, Int32.reduceToNatClampNeg, Int32.reduceOfNat, Int32.reduceOfInt, Int64.reduceLT, Int64.reduceAdd, Int64.reduceSub, Int64.reduceMul, String.reduceEq, reduceCtorEq, room_c, room_s]
    refine kf0_348 (con2 _ 6 _ _ _ _ _ rfl (by decide)) ?_
    simp only [↓B0, ↓idx_c, ↓setN_c, ↓idxN_c, ↓reduceIte, B1, List.length_cons, List.length_nil, List.mem_cons, List.not_mem_nil, or_false, true_or, or_true, true_and, and_true, and_self, not_true_eq_false, not_false_eq_true, eq_self, ne_eq, Nat.zero_le, Nat.le_refl, Nat.reduceAdd, Nat.reduceSub, Nat.reduceEqDiff, Nat.reduceLeDiff, Int32.reduceLT, Int32.reduceLE, Int32.reduceAdd, Int32.reduceSub, Int32.reduceMul, Int32.reduceToNatClampNeg, Int32.reduceOfNat, Int32.reduceOfInt, Int64.reduceLT, Int64.reduceAdd, Int64.reduceSub, Int64.reduceMul, String.reduceEq, reduceCtorEq, room_c, room_s, sm]
    refine r0 300 ?_
    simp only [↓S0, ↓B0, ↓idx_c, ↓setN_c, ↓idxN_c, ↓reduceIte, B1, List.length_cons, List.length_nil, List.mem_cons, List.not_mem_nil, or_false, true_or, or_true, true_and, and_true, and_self, not_true_eq_false, not_false_eq_true, eq_self, ne_eq, Nat.zero_le, Nat.le_refl, Nat.reduceAdd, Nat.reduceSub, Nat.reduceEqDiff, Nat.reduceLeDiff, Int32.reduceLT, Int32.reduceLE, Int32.reduceAdd, Int32.reduceSub, Int32.reduceMul, Int32.reduceToNatClampNeg, Int32.reduceOfNat, Int32.reduceOfInt, Int64.reduceLT, Int64.reduceAdd, Int64.reduceSub, Int64.reduceMul, String.reduceEq, reduceCtorEq, room_c, room_s]
    refine kf0_377 (con2 _ 7 _ _ _ _ _ rfl (by decide)) ?_
    simp only [↓B0, ↓idx_c, ↓setN_c, ↓idxN_c, ↓reduceIte, B1, List.length_cons, List.length_nil, List.mem_cons, List.not_mem_nil, or_false, true_or, or_true, true_and, and_true, and_self, not_true_eq_false, not_false_eq_true, eq_self, ne_eq, Nat.zero_le, Nat.le_refl, Nat.reduceAdd, Nat.reduceSub, Nat.reduceEqDiff, Nat.reduceLeDiff, Int32.reduceLT, Int32.reduceLE, Int32.reduceAdd, Int32.reduceSub, Int32.reduceMul, Int32.reduceToNatClampNeg, Int32.reduceOfNat, Int32.reduceOfInt, Int64.reduceLT, Int64.reduceAdd, Int64.reduceSub, Int64.reduceMul, String.reduceEq, reduceCtorEq, room_c, room_s, sm]
    refine r0 300 ?_
    simp only [↓S0, ↓B0, ↓idx_c, ↓setN_c, ↓idxN_c, ↓reduceIte, B1, List.length_cons, List.length_nil, List.mem_cons, List.not_mem_nil, or_false, true_or, or_true, true_and, and_true, and_self, not_true_eq_false, not_false_eq_true, eq_self, ne_eq, Nat.zero_le, Nat.le_refl, Nat.reduceAdd, Nat.reduceSub, Nat.reduceEqDiff, Nat.reduceLeDiff, Int32.reduceLT, Int32.reduceLE, Int32.reduceAdd, Int32.reduceSub, Int32.reduceMul, Int32.reduceToNatClampNeg, Int32.reduceOfNat, Int32.reduceOfInt, Int64.reduceLT, Int64.reduceAdd, Int64.reduceSub, Int64.reduceMul, String.reduceEq, reduceCtorEq, room_c, room_s]
    refine kf0_406 (con2 _ 8 _ _ _ _ _ rfl (by decide)) ?_
    simp only [↓B0, ↓idx_c, ↓setN_c, ↓idxN_c, ↓reduceIte, B1, List.length_cons, List.length_nil, List.mem_cons, List.not_mem_nil, or_false, true_or, or_true, true_and, and_true, and_self, not_true_eq_false, not_false_eq_true, eq_self, ne_eq, Nat.zero_le, Nat.le_refl, Nat.reduceAdd, Nat.reduceSub, Nat.reduceEqDiff, Nat.reduceLeDiff, Int32.reduceLT, Int32.reduceLE, Int32.reduceAdd, Int32.reduceSub, Int32.reduceMul, Int32.reduceToNatClampNeg, Int32.reduceOfNat, Int32.reduceOfInt, Int64.reduceLT, Int64.reduceAdd, Int64.reduceSub, Int64.reduceMul, String.reduceEq, reduceCtorEq, room_c, room_s, sm]
    refine r0 300 ?_
    simp only [↓S0, ↓B0, ↓idx_c, ↓setN_c, ↓idxN_c, ↓reduceIte, B1, List.length_cons, List.length_nil, List.mem_cons, List.not_mem_nil, or_false, true_or, or_true, true_and, and_true, and_self, not_true_eq_false, not_false_eq_true, eq_self, ne_eq, Nat.zero_le, Nat.le_refl, Nat.reduceAdd, Nat.reduceSub, Nat.reduceEqDiff, Nat.reduceLeDiff, Int32.reduceLT, Int32.reduceLE, Int32.reduceAdd, Int32.reduceSub, Int32.reduceMul, Int32.reduceToNatClampNeg, Int32.reduceOfNat, Int32.reduceOfInt, Int64.reduceLT, Int64.reduceAdd, Int64.reduceSub, Int64.reduceMul, String.reduceEq, reduceCtorEq, room_c, room_s]
    refine kf0_435 (con2 _ 9 _ _ _ _ _ rfl (by decide)) ?_
    simp only [↓B0, ↓idx_c, ↓setN_c, ↓idxN_c, ↓reduceIte, B1, List.length_cons, List.length_nil, List.mem_cons, List.not_mem_nil, or_false, true_or, or_true, true_and, and_true, and_self, not_true_eq_false, not_false_eq_true, eq_self, ne_eq, Nat.zero_le, Nat.le_refl, Nat.reduceAdd, Nat.reduceSub, Nat.reduceEqDiff, Nat.reduceLeDiff, Int32.reduceLT, Int32.reduceLE, Int32.reduceAdd, Int32.reduceSub, Int32.reduceMul, Int32.reduceToNatClampNeg, Int32.reduceOfNat, Int32.reduceOfInt, Int64.reduceLT, Int64.reduceAdd, Int64.reduceSub, Int64.reduceMul, String.reduceEq, reduceCtorEq, room_c, room_s, sm]
    refine r0 300 ?_
    simp only [↓S0, ↓B0, ↓idx_c, ↓setN_c, ↓idxN_c, ↓reduceIte, B1, List.length_cons, List.length_nil, List.mem_cons, List.not_mem_nil, or_false, true_or, or_true, true_and, and_true, and_self, not_true_eq_false, not_false_eq_true, eq_self, ne_eq, Nat.zero_le, Nat.le_refl, Nat.reduceAdd, Nat.reduceSub, Nat.reduceEqDiff, Nat.reduceLeDiff, Int32.reduceLT, Int32.reduceLE, Int32.reduceAdd, Int32.reduceSub, Int32.reduceMul, Int32.reduceToNatClampNeg, Int32.reduceOfNat, Int32.reduceOfInt, Int64.reduceLT, Int64.reduceAdd, Int64.reduceSub, Int64.reduceMul, String.reduceEq, reduceCtorEq, room_c, room_s]
  · obtain ⟨h0, h1, h2, h3, c1, c2, c3, c4, t0, t1, t2, t3⟩ := facts_4 i0 (by omega) (by omega)
    refine r0 300 ?_
    simp only [↓S0, ↓B0, ↓idx_c, ↓setN_c, ↓idxN_c, ↓reduceIte, B1, List.length_cons, List.length_nil, List.mem_cons, List.not_mem_nil, or_false, true_or, or_true, true_and, and_true, and_self, not_true_eq_false, not_false_eq_true, eq_self, ne_eq, Nat.zero_le, Nat.le_refl, Nat.reduceAdd, Nat.reduceSub, Nat.reduceEqDiff, Nat.reduceLeDiff, Int32.reduceLT, Int32.reduceLE, Int32.reduceAdd, Int32.reduceSub, Int32.reduceMul, Int32.reduceToNatClampNeg, Int32.reduceOfNat, Int32.reduceOfInt, Int64.reduceLT, Int64.reduceAdd, Int64.reduceSub, Int64.reduceMul, String.reduceEq, reduceCtorEq, room_c, room_s, hv]
    refine kf0_72 (con1_2_4 (nar .byte i2) i0 h0 h1 h2 h3) (r0 300 ?_)
    simp only [↓S0, ↓B0, ↓idx_c, ↓setN_c, ↓idxN_c, ↓reduceIte, B1, List.length_cons, List.length_nil, List.mem_cons, List.not_mem_nil, or_false, true_or, or_true, true_and, and_true, and_self, not_true_eq_false, not_false_eq_true, eq_self, ne_eq, Nat.zero_le, Nat.le_refl, Nat.reduceAdd, Nat.reduceSub, Nat.reduceEqDiff, Nat.reduceLeDiff, Int32.reduceLT, Int32.reduceLE, Int32.reduceAdd, Int32.reduceSub, Int32.reduceMul, Int32.reduceToNatClampNeg, Int32.reduceOfNat, Int32.reduceOfInt, Int64.reduceLT, Int64.reduceAdd, Int64.reduceSub, Int64.reduceMul, String.reduceEq, reduceCtorEq, room_c, room_s, c1, c2, c3, c4]
    refine kf0_179 (con2 _ 0 _ _ _ _ _ rfl (by decide)) ?_
    simp only [↓B0, ↓idx_c, ↓setN_c, ↓idxN_c, ↓reduceIte, B1, List.length_cons, List.length_nil, List.mem_cons, List.not_mem_nil, or_false, true_or, or_true, true_and, and_true, and_self, not_true_eq_false, not_false_eq_true, eq_self, ne_eq, Nat.zero_le, Nat.le_refl, Nat.reduceAdd, Nat.reduceSub, Nat.reduceEqDiff, Nat.reduceLeDiff, Int32.reduceLT, Int32.reduceLE, Int32.reduceAdd, Int32.reduceSub, Int32.reduceMul, Int32.reduceToNatClampNeg, Int32.reduceOfNat, Int32.reduceOfInt, Int64.reduceLT, Int64.reduceAdd, Int64.reduceSub, Int64.reduceMul, String.reduceEq, reduceCtorEq, room_c, room_s, sm]
    refine r0 300 ?_
    simp only [↓S0, ↓B0, ↓idx_c, ↓setN_c, ↓idxN_c, ↓reduceIte, B1, List.length_cons, List.length_nil, List.mem_cons, List.not_mem_nil, or_false, true_or, or_true, true_and, and_true, and_self, not_true_eq_false, not_false_eq_true, eq_self, ne_eq, Nat.zero_le, Nat.le_refl, Nat.reduceAdd, Nat.reduceSub, Nat.reduceEqDiff, Nat.reduceLeDiff, Int32.reduceLT, Int32.reduceLE, Int32.reduceAdd, Int32.reduceSub, Int32.reduceMul, Int32.reduceToNatClampNeg, Int32.reduceOfNat, Int32.reduceOfInt, Int64.reduceLT, Int64.reduceAdd, Int64.reduceSub, Int64.reduceMul, String.reduceEq, reduceCtorEq, room_c, room_s]
    refine kf0_207 (con2 _ 1 _ _ _ _ _ rfl (by decide)) ?_
    simp only [↓B0, ↓idx_c, ↓setN_c, ↓idxN_c, ↓reduceIte, B1, List.length_cons, List.length_nil, List.mem_cons, List.not_mem_nil, or_false, true_or, or_true, true_and, and_true, and_self, not_true_eq_false, not_false_eq_true, eq_self, ne_eq, Nat.zero_le, Nat.le_refl, Nat.reduceAdd, Nat.reduceSub, Nat.reduceEqDiff, Nat.reduceLeDiff, Int32.reduceLT, Int32.reduceLE, Int32.reduceAdd, Int32.reduceSub, Int32.reduceMul, Int32.reduceToNatClampNeg, Int32.reduceOfNat, Int32.reduceOfInt, Int64.reduceLT, Int64.reduceAdd, Int64.reduceSub, Int64.reduceMul, String.reduceEq, reduceCtorEq, room_c, room_s, sm]
    refine r0 300 ?_
    simp only [↓S0, ↓B0, ↓idx_c, ↓setN_c, ↓idxN_c, ↓reduceIte, B1, List.length_cons, List.length_nil, List.mem_cons, List.not_mem_nil, or_false, true_or, or_true, true_and, and_true, and_self, not_true_eq_false, not_false_eq_true, eq_self, ne_eq, Nat.zero_le, Nat.le_refl, Nat.reduceAdd, Nat.reduceSub, Nat.reduceEqDiff, Nat.reduceLeDiff, Int32.reduceLT, Int32.reduceLE, Int32.reduceAdd, Int32.reduceSub, Int32.reduceMul, Int32.reduceToNatClampNeg, Int32.reduceOfNat, Int32.reduceOfInt, Int64.reduceLT, Int64.reduceAdd, Int64.reduceSub, Int64.reduceMul, String.reduceEq, reduceCtorEq, room_c, room_s]
    refine kf0_235 (con2 _ 2 _ _ _ _ _ rfl (by decide)) ?_
    simp only [↓B0, ↓idx_c, ↓setN_c, ↓idxN_c, ↓reduceIte, B1, List.length_cons, List.length_nil, List.mem_cons, List.not_mem_nil, or_false, true_or, or_true, true_and, and_true, and_self, not_true_eq_false, not_false_eq_true, eq_self, ne_eq, Nat.zero_le, Nat.le_refl, Nat.reduceAdd, Nat.reduceSub, Nat.reduceEqDiff, Nat.reduceLeDiff, Int32.reduceLT, Int32.reduceLE, Int32.reduceAdd, Int32.reduceSub, Int32.reduceMul, Int32.reduceToNatClampNeg, Int32.reduceOfNat, Int32.reduceOfInt, Int64.reduceLT, Int64.reduceAdd, Int64.reduceSub, Int64.reduceMul, String.reduceEq, reduceCtorEq, room_c, room_s, sm, t0]
    refine r0 300 ?_
    simp only [↓S0, ↓B0, ↓idx_c, ↓setN_c, ↓idxN_c, ↓reduceIte, B1, List.length_cons, List.length_nil, List.mem_cons, List.not_mem_nil, or_false, true_or, or_true, true_and, and_true, and_self, not_true_eq_false, not_false_eq_true, eq_self, ne_eq, Nat.zero_le, Nat.le_refl, Nat.reduceAdd, Nat.reduceSub, Nat.reduceEqDiff, Nat.reduceLeDiff, Int32.reduceLT, Int32.reduceLE, Int32.reduceAdd, Int32.reduceSub, Int32.reduceMul, Int32.reduceToNatClampNeg, Int32.reduceOfNat, Int32.reduceOfInt, Int64.reduceLT, Int64.reduceAdd, Int64.reduceSub, Int64.reduceMul, String.reduceEq, reduceCtorEq, room_c, room_s]
    refine kf0_263 (con2 _ 3 _ _ _ _ _ rfl (by decide)) ?_
    simp only [↓B0, ↓idx_c, ↓setN_c, ↓idxN_c, ↓reduceIte, B1, List.length_cons, List.length_nil, List.mem_cons, List.not_mem_nil, or_false, true_or, or_true, true_and, and_true, and_self, not_true_eq_false, not_false_eq_true, eq_self, ne_eq, Nat.zero_le, Nat.le_refl, Nat.reduceAdd, Nat.reduceSub, Nat.reduceEqDiff, Nat.reduceLeDiff, Int32.reduceLT, Int32.reduceLE, Int32.reduceAdd, Int32.reduceSub, Int32.reduceMul, Int32.reduceToNatClampNeg, Int32.reduceOfNat, Int32.reduceOfInt, Int64.reduceLT, Int64.reduceAdd, Int64.reduceSub, Int64.reduceMul, String.reduceEq, reduceCtorEq, room_c, room_s, sm, t1]
    refine r0 300 ?_
    simp only [↓S0, ↓B0, ↓idx_c, ↓setN_c, ↓idxN_c, ↓reduceIte, B1, List.length_cons, List.length_nil, List.mem_cons, List.not_mem_nil, or_false, true_or, or_true, true_and, and_true, and_self, not_true_eq_false, not_false_eq_true, eq_self, ne_eq, Nat.zero_le, Nat.le_refl, Nat.reduceAdd, Nat.reduceSub, Nat.reduceEqDiff, Nat.reduceLeDiff, Int32.reduceLT, Int32.reduceLE, Int32.reduceAdd, Int32.reduceSub, Int32.reduceMul, Int32.reduceToNatClampNeg, Int32.reduceOfNat, Int32.reduceOfInt, Int64.reduceLT, Int64.reduceAdd, Int64.reduceSub, Int64.reduceMul, String.reduceEq, reduceCtorEq, room_c, room_s]
    refine kf0_291 (con2 _ 4 _ _ _ _ _ rfl (by decide)) ?_
    simp only [↓B0, ↓idx_c, ↓setN_c, ↓idxN_c, ↓reduceIte, B1, List.length_cons, List.length_nil, List.mem_cons, List.not_mem_nil, or_false, true_or, or_true, true_and, and_true, and_self, not_true_eq_false, not_false_eq_true, eq_self, ne_eq, Nat.zero_le, Nat.le_refl, Nat.reduceAdd, Nat.reduceSub, Nat.reduceEqDiff, Nat.reduceLeDiff, Int32.reduceLT, Int32.reduceLE, Int32.reduceAdd, Int32.reduceSub, Int32.reduceMul, Int32.reduceToNatClampNeg, Int32.reduceOfNat, Int32.reduceOfInt, Int64.reduceLT, Int64.reduceAdd, Int64.reduceSub, Int64.reduceMul, String.reduceEq, reduceCtorEq, room_c, room_s, sm, t2]
    refine r0 300 ?_
    simp only [↓S0, ↓B0, ↓idx_c, ↓setN_c, ↓idxN_c, ↓reduceIte, B1, List.length_cons, List.length_nil, List.mem_cons, List.not_mem_nil, or_false, true_or, or_true, true_and, and_true, and_self, not_true_eq_false, not_false_eq_true, eq_self, ne_eq, Nat.zero_le, Nat.le_refl, Nat.reduceAdd, Nat.reduceSub, Nat.reduceEqDiff, Nat.reduceLeDiff, Int32.reduceLT, Int32.reduceLE, Int32.reduceAdd, Int32.reduceSub, Int32.reduceMul, Int32.reduceToNatClampNeg, Int32.reduceOfNat, Int32.reduceOfInt, Int64.reduceLT, Int64.reduceAdd, Int64.reduceSub, Int64.reduceMul, String.reduceEq, reduceCtorEq, room_c, room_s]
    refine kf0_319 (con2 _ 5 _ _ _ _ _ rfl (by decide)) ?_
    simp only [↓B0, ↓idx_c, ↓setN_c, ↓idxN_c, ↓reduceIte, B1, List.length_cons, List.length_nil, List.mem_cons, List.not_mem_nil, or_false, true_or, or_true, true_and, and_true, and_self, not_true_eq_false, not_false_eq_true, eq_self, ne_eq, Nat.zero_le, Nat.le_refl, Nat.reduceAdd, Nat.reduceSub, Nat.reduceEqDiff, Nat.reduceLeDiff, Int32.reduceLT, Int32.reduceLE, Int32.reduceAdd, Int32.reduceSub, Int32.reduceMul, Int32.reduceToNatClampNeg, Int32.reduceOfNat, Int32.reduceOfInt, Int64.reduceLT, Int64.reduceAdd, Int64.reduceSub, Int64.reduceMul, String.reduceEq, reduceCtorEq, room_c, room_s, sm, t3]
    refine r0 300 ?_
    simp only [↓S0, ↓B0, ↓idx_c, ↓setN_c, ↓idxN_c, ↓reduceIte, B1, List.length_cons, List.length_nil, List.mem_cons, List.not_mem_nil, or_false, true_or, or_true, true_and, and_true, and_self, not_true_eq_false, not_false_eq_true, eq_self, ne_eq, Nat.zero_le, Nat.le_refl, Nat.reduceAdd, Nat.reduceSub, Nat.reduceEqDiff, Nat.reduceLeDiff, Int32.reduceLT, Int32.reduceLE, Int32.reduceAdd, Int32.reduceSub, Int32.reduceMul, Int32.reduceToNatClampNeg, Int32.reduceOfNat, Int32.reduceOfInt, Int64.reduceLT, Int64.reduceAdd, Int64.reduceSub, Int64.reduceMul, String.reduceEq, reduceCtorEq, room_c, room_s]
    refine kf0_348 (con2 _ 6 _ _ _ _ _ rfl (by decide)) ?_
    simp only [↓B0, ↓idx_c, ↓setN_c, ↓idxN_c, ↓reduceIte, B1, List.length_cons, List.length_nil, List.mem_cons, List.not_mem_nil, or_false, true_or, or_true, true_and, and_true, and_self, not_true_eq_false, not_false_eq_true, eq_self, ne_eq, Nat.zero_le, Nat.le_refl, Nat.reduceAdd, Nat.reduceSub, Nat.reduceEqDiff, Nat.reduceLeDiff, Int32.reduceLT, Int32.reduceLE, Int32.reduceAdd, Int32.reduceSub, Int32.reduceMul, Int32.reduceToNatClampNeg, Int32.reduceOfNat, Int32.reduceOfInt, Int64.reduceLT, Int64.reduceAdd, Int64.reduceSub, Int64.reduceMul, String.reduceEq, reduceCtorEq, room_c, room_s, sm]
    refine r0 300 ?_
    simp only [↓S0, ↓B0, ↓idx_c, ↓setN_c, ↓idxN_c, ↓reduceIte, B1, List.length_cons, List.length_nil, List.mem_cons, List.not_mem_nil, or_false, true_or, or_true, true_and, and_true, and_self, not_true_eq_false, not_false_eq_true, eq_self, ne_eq, Nat.zero_le, Nat.le_refl, Nat.reduceAdd, Nat.reduceSub, Nat.reduceEqDiff, Nat.reduceLeDiff, Int32.reduceLT, Int32.reduceLE, Int32.reduceAdd, Int32.reduceSub, Int32.reduceMul, Int32.reduceToNatClampNeg, Int32.reduceOfNat, Int32.reduceOfInt, Int64.reduceLT, Int64.reduceAdd, Int64.reduceSub, Int64.reduceMul, String.reduceEq, reduceCtorEq, room_c, room_s]
    refine kf0_377 (con2 _ 7 _ _ _ _ _ rfl (by decide)) ?_
    simp only [↓B0, ↓idx_c, ↓setN_c, ↓idxN_c, ↓reduceIte, B1, List.length_cons, List.length_nil, List.mem_cons, List.not_mem_nil, or_false, true_or, or_true, true_and, and_true, and_self, not_true_eq_false, not_false_eq_true, eq_self, ne_eq, Nat.zero_le, Nat.le_refl, Nat.reduceAdd, Nat.reduceSub, Nat.reduceEqDiff, Nat.reduceLeDiff, Int32.reduceLT, Int32.reduceLE, Int32.reduceAdd, Int32.reduceSub, Int32.reduceMul, Int32.reduceToNatClampNeg, Int32.reduceOfNat, Int32.reduceOfInt, Int64.reduceLT, Int64.reduceAdd, Int64.reduceSub, Int64.reduceMul, String.reduceEq, reduceCtorEq, room_c, room_s, sm]
    refine r0 300 ?_
    simp only [↓S0, ↓B0, ↓idx_c, ↓setN_c, ↓idxN_c, ↓reduceIte, B1, List.length_cons, List.length_nil, List.mem_cons, List.not_mem_nil, or_false, true_or, or_true, true_and, and_true, and_self, not_true_eq_false, not_false_eq_true, eq_self, ne_eq, Nat.zero_le, Nat.le_refl, Nat.reduceAdd, Nat.reduceSub, Nat.reduceEqDiff, Nat.reduceLeDiff, Int32.reduceLT, Int32.reduceLE, Int32.reduceAdd, Int32.reduceSub, Int32.reduceMul, Int32.reduceToNatClampNeg, Int32.reduceOfNat, Int32.reduceOfInt, Int64.reduceLT, Int64.reduceAdd, Int64.reduceSub, Int64.reduceMul, String.reduceEq, reduceCtorEq, room_c, room_s]
    refine kf0_406 (con2 _ 8 _ _ _ _ _ rfl (by decide)) ?_
    simp only [↓B0, ↓idx_c, ↓setN_c, ↓idxN_c, ↓reduceIte, B1, List.length_cons, List.length_nil, List.mem_cons, List.not_mem_nil, or_false, true_or, or_true, true_and, and_true, and_self, not_true_eq_false, not_false_eq_true, eq_self, ne_eq, Nat.zero_le, Nat.le_refl, Nat.reduceAdd, Nat.reduceSub, Nat.reduceEqDiff, Nat.reduceLeDiff, Int32.reduceLT, Int32.reduceLE, Int32.reduceAdd, Int32.reduceSub, Int32.reduceMul, Int32.reduceToNatClampNeg, Int32.reduceOfNat, Int32.reduceOfInt, Int64.reduceLT, Int64.reduceAdd, Int64.reduceSub, Int64.reduceMul, String.reduceEq, reduceCtorEq, room_c, room_s, sm]
    refine r0 300 ?_
    simp only [↓S0, ↓B0, ↓idx_c, ↓setN_c, ↓idxN_c, ↓reduceIte, B1, List.length_cons, List.length_nil, List.mem_cons, List.not_mem_nil, or_false, true_or, or_true, true_and, and_true, and_self, not_true_eq_false, not_false_eq_true, eq_self, ne_eq, Nat.zero_le, Nat.le_refl, Nat.reduceAdd, Nat.reduceSub, Nat.reduceEqDiff, Nat.reduceLeDiff, Int32.reduceLT, Int32.reduceLE, Int32.reduceAdd, Int32.reduceSub, Int32.reduceMul, Int32.reduceToNatClampNeg, Int32.reduceOfNat, Int32.reduceOfInt, Int64.reduceLT, Int64.reduceAdd, Int64.reduceSub, Int64.reduceMul, String.reduceEq, reduceCtorEq, room_c, room_s]
    refine kf0_435 (con2 _ 9 _ _ _ _ _ rfl (by decide)) ?_
    simp only [↓B0, ↓idx_c, ↓setN_c, ↓idxN_c, ↓reduceIte, B1, List.length_cons, List.length_nil, List.mem_cons, List.not_mem_nil, or_false, true_or, or_true, true_and, and_true, and_self, not_true_eq_false, not_false_eq_true, eq_self, ne_eq, Nat.zero_le, Nat.le_refl, Nat.reduceAdd, Nat.reduceSub, Nat.reduceEqDiff, Nat.reduceLeDiff, Int32.reduceLT, Int32.reduceLE, Int32.reduceAdd, Int32.reduceSub, Int32.reduceMul, Int32.reduceToNatClampNeg, Int32.reduceOfNat, Int32.reduceOfInt, Int64.reduceLT, Int64.reduceAdd, Int64.reduceSub, Int64.reduceMul, String.reduceEq, reduceCtorEq, room_c, room_s, sm]
    refine r0 300 ?_
    simp only [↓S0, ↓B0, ↓idx_c, ↓setN_c, ↓idxN_c, ↓reduceIte, B1, List.length_cons, List.length_nil, List.mem_cons, List.not_mem_nil, or_false, true_or, or_true, true_and, and_true, and_self, not_true_eq_false, not_false_eq_true, eq_self, ne_eq, Nat.zero_le, Nat.le_refl, Nat.reduceAdd, Nat.reduceSub, Nat.reduceEqDiff, Nat.reduceLeDiff, Int32.reduceLT, Int32.reduceLE, Int32.reduceAdd, Int32.reduceSub, Int32.reduceMul, Int32.reduceToNatClampNeg, Int32.reduceOfNat, Int32.reduceOfInt, Int64.reduceLT, Int64.reduceAdd, Int64.reduceSub, Int64.reduceMul, String.reduceEq, reduceCtorEq, room_c, room_s]
  · obtain ⟨h0, h1, h2, h3, h4, c1, c2, c3, c4, t0, t1, t2, t3, t4⟩ := facts_5 i0 (by omega) (by omega)
    refine r0 300 ?_
    simp only [↓S0, ↓B0, ↓idx_c, ↓setN_c, ↓idxN_c, ↓reduceIte, B1, List.length_cons, List.length_nil, List.mem_cons, List.not_mem_nil, or_false, true_or, or_true, true_and, and_true, and_self, not_true_eq_false, not_false_eq_true, eq_self, ne_eq, Nat.zero_le, Nat.le_refl, Nat.reduceAdd, Nat.reduceSub, Nat.reduceEqDiff, Nat.reduceLeDiff, Int32.reduceLT, Int32.reduceLE, Int32.reduceAdd, Int32.reduceSub, Int32.reduceMul, Int32.reduceToNatClampNeg, Int32.reduceOfNat, Int32.reduceOfInt, Int64.reduceLT, Int64.reduceAdd, Int64.reduceSub, Int64.reduceMul, String.reduceEq, reduceCtorEq, room_c, room_s, hv]
    refine kf0_72 (con1_2_5 (nar .byte i2) i0 h0 h1 h2 h3 h4) (r0 300 ?_)
    simp only [↓S0, ↓B0, ↓idx_c, ↓setN_c, ↓idxN_c, ↓reduceIte, B1, List.length_cons, List.length_nil, List.mem_cons, List.not_mem_nil, or_false, true_or, or_true, true_and, and_true, and_self, not_true_eq_false, not_false_eq_true, eq_self, ne_eq, Nat.zero_le, Nat.le_refl, Nat.reduceAdd, Nat.reduceSub, Nat.reduceEqDiff, Nat.reduceLeDiff, Int32.reduceLT, Int32.reduceLE, Int32.reduceAdd, Int32.reduceSub, Int32.reduceMul, Int32.reduceToNatClampNeg, Int32.reduceOfNat, Int32.reduceOfInt, Int64.reduceLT, Int64.reduceAdd, Int64.reduceSub, Int64.reduceMul, String.reduceEq, reduceCtorEq, room_c, room_s, c1, c2, c3, c4]
    refine kf0_179 (con2 _ 0 _ _ _ _ _ rfl (by decide)) ?_
    simp only [↓B0, ↓idx_c, ↓setN_c, ↓idxN_c, ↓reduceIte, B1, List.length_cons, List.length_nil, List.mem_cons, List.not_mem_nil, or_false, true_or, or_true, true_and, and_true, and_self, not_true_eq_false, not_false_eq_true, eq_self, ne_eq, Nat.zero_le, Nat.le_refl, Nat.reduceAdd, Nat.reduceSub, Nat.reduceEqDiff, Nat.reduceLeDiff, Int32.reduceLT, Int32.reduceLE, Int32.reduceAdd, Int32.reduceSub, Int32.reduceMul, Int32.reduceToNatClampNeg, Int32.reduceOfNat, Int32.reduceOfInt, Int64.reduceLT, Int64.reduceAdd, Int64.reduceSub, Int64.reduceMul, String.reduceEq, reduceCtorEq, room_c, room_s, sm]
    refine r0 300 ?_
    simp only [↓S0, ↓B0, ↓idx_c, ↓setN_c, ↓idxN_c, ↓reduceIte, B1, List.length_cons, List.length_nil, List.mem_cons, List.not_mem_nil, or_false, true_or, or_true, true_and, and_true, and_self, not_true_eq_false, not_false_eq_true, eq_self, ne_eq, Nat.zero_le, Nat.le_refl, Nat.reduceAdd, Nat.reduceSub, Nat.reduceEqDiff, Nat.reduceLeDiff, Int32.reduceLT, Int32.reduceLE, Int32.reduceAdd, Int32.reduceSub, Int32.reduceMul, Int32.reduceToNatClampNeg, Int32.reduceOfNat, Int32.reduceOfInt, Int64.reduceLT, Int64.reduceAdd, Int64.reduceSub, Int64.reduceMul, String.reduceEq, reduceCtorEq, room_c, room_s]
    refine kf0_207 (con2 _ 1 _ _ _ _ _ rfl (by decide)) ?_
    simp only [↓B0, ↓idx_c, ↓setN_c, ↓idxN_c, ↓reduceIte, B1, List.length_cons, List.length_nil, List.mem_cons, List.not_mem_nil, or_false, true_or, or_true, true_and, and_true, and_self, not_true_eq_false, not_false_eq_true, eq_self, ne_eq, Nat.zero_le, Nat.le_refl, Nat.reduceAdd, Nat.reduceSub, Nat.reduceEqDiff, Nat.reduceLeDiff, Int32.reduceLT, Int32.reduceLE, Int32.reduceAdd, Int32.reduceSub, Int32.reduceMul, Int32.reduceToNatClampNeg, Int32.reduceOfNat, Int32.reduceOfInt, Int64.reduceLT, Int64.reduceAdd, Int64.reduceSub, Int64.reduceMul, String.reduceEq, reduceCtorEq, room_c, room_s, sm]
    refine r0 300 ?_
    simp only [↓S0, ↓B0, ↓idx_c, ↓setN_c, ↓idxN_c, ↓reduceIte, B1, List.length_cons, List.length_nil, List.mem_cons, List.not_mem_nil, or_false, true_or, or_true, true_and, and_true, and_self, not_true_eq_false, not_false_eq_true, eq_self, ne_eq, Nat.zero_le, Nat.le_refl, Nat.reduceAdd, Nat.reduceSub, Nat.reduceEqDiff, Nat.reduceLeDiff, Int32.reduceLT, Int32.reduceLE, Int32.reduceAdd, Int32.reduceSub, Int32.reduceMul, Int32.reduceToNatClampNeg, Int32.reduceOfNat, Int32.reduceOfInt, Int64.reduceLT, Int64.reduceAdd, Int64.reduceSub, Int64.reduceMul, String.reduceEq, reduceCtorEq, room_c, room_s]
    refine kf0_235 (con2 _ 2 _ _ _ _ _ rfl (by decide)) ?_
    simp only [↓B0, ↓idx_c, ↓setN_c, ↓idxN_c, ↓reduceIte, B1, List.length_cons, List.length_nil, List.mem_cons, List.not_mem_nil, or_false, true_or, or_true, true_and, and_true, and_self, not_true_eq_false, not_false_eq_true, eq_self, ne_eq, Nat.zero_le, Nat.le_refl, Nat.reduceAdd, Nat.reduceSub, Nat.reduceEqDiff, Nat.reduceLeDiff, Int32.reduceLT, Int32.reduceLE, Int32.reduceAdd, Int32.reduceSub, Int32.reduceMul, Int32.reduceToNatClampNeg, Int32.reduceOfNat, Int32.reduceOfInt, Int64.reduceLT, Int64.reduceAdd, Int64.reduceSub, Int64.reduceMul, String.reduceEq, reduceCtorEq, room_c, room_s, sm, t0]
    refine r0 300 ?_
    simp only [↓S0, ↓B0, ↓idx_c, ↓setN_c, ↓idxN_c, ↓reduceIte, B1, List.length_cons, List.length_nil, List.mem_cons, List.not_mem_nil, or_false, true_or, or_true, true_and, and_true, and_self, not_true_eq_false, not_false_eq_true, eq_self, ne_eq, Nat.zero_le, Nat.le_refl, Nat.reduceAdd, Nat.reduceSub, Nat.reduceEqDiff, Nat.reduceLeDiff, Int32.reduceLT, Int32.reduceLE, Int32.reduceAdd, Int32.reduceSub, Int32.reduceMul, Int32.reduceToNatClampNeg, Int32.reduceOfNat, Int32.reduceOfInt, Int64.reduceLT, Int64.reduceAdd, Int64.reduceSub, Int64.reduceMul, String.reduceEq, reduceCtorEq, room_c, room_s]
    refine kf0_263 (con2 _ 3 _ _ _ _ _ rfl (by decide)) ?_
    simp only [↓B0, ↓idx_c, ↓setN_c, ↓idxN_c, ↓reduceIte, B1, List.length_cons, List.length_nil, List.mem_cons, List.not_mem_nil, or_false, true_or, or_true, true_and, and_true, and_self, not_true_eq_false, not_false_eq_true, eq_self, ne_eq, Nat.zero_le, Nat.le_refl, Nat.reduceAdd, Nat.reduceSub, Nat.reduceEqDiff, Nat.reduceLeDiff, Int32.reduceLT, Int32.reduceLE, Int32.reduceAdd, Int32.reduceSub, Int32.reduceMul, Int32.reduceToNatClampNeg, Int32.reduceOfNat, Int32.reduceOfInt, Int64.reduceLT, Int64.reduceAdd, Int64.reduceSub, Int64.reduceMul, String.reduceEq, reduceCtorEq, room_c, room_s, sm, t1]
    refine r0 300 ?_
    simp only [↓S0, ↓B0, ↓idx_c, ↓setN_c, ↓idxN_c, ↓reduceIte, B1, List.length_cons, List.length_nil, List.mem_cons, List.not_mem_nil, or_false, true_or, or_true, true_and, and_true, and_self, not_true_eq_false, not_false_eq_true, eq_self, ne_eq, Nat.zero_le, Nat.le_refl, Nat.reduceAdd, Nat.reduceSub, Nat.reduceEqDiff, Nat.reduceLeDiff, Int32.reduceLT, Int32.reduceLE, Int32.reduceAdd, Int32.reduceSub, Int32.reduceMul, Int32.reduceToNatClampNeg, Int32.reduceOfNat, Int32.reduceOfInt, Int64.reduceLT, Int64.reduceAdd, Int64.reduceSub, Int64.reduceMul, String.reduceEq, reduceCtorEq, room_c, room_s]
    refine kf0_291 (con2 _ 4 _ _ _ _ _ rfl (by decide)) ?_
    simp only [↓B0, ↓idx_c, ↓setN_c, ↓idxN_c, ↓reduceIte, B1, List.length_cons, List.length_nil, List.mem_cons, List.not_mem_nil, or_false, true_or, or_true, true_and, and_true, and_self, not_true_eq_false, not_false_eq_true, eq_self, ne_eq, Nat.zero_le, Nat.le_refl, Nat.reduceAdd, Nat.reduceSub, Nat.reduceEqDiff, Nat.reduceLeDiff, Int32.reduceLT, Int32.reduceLE, Int32.reduceAdd, Int32.reduceSub, Int32.reduceMul, Int32.reduceToNatClampNeg, Int32.reduceOfNat, Int32.reduceOfInt, Int64.reduceLT, Int64.reduceAdd, Int64.reduceSub, Int64.reduceMul, String.reduceEq, reduceCtorEq, room_c, room_s, sm, t2]
    refine r0 300 ?_
    simp only [↓S0, ↓B0, ↓idx_c, ↓setN_c, ↓idxN_c, ↓reduceIte, B1, List.length_cons, List.length_nil, List.mem_cons, List.not_mem_nil, or_false, true_or, or_true, true_and, and_true, and_self, not_true_eq_false, not_false_eq_true, eq_self, ne_eq, Nat.zero_le, Nat.le_refl, Nat.reduceAdd, Nat.reduceSub, Nat.reduceEqDiff, Nat.reduceLeDiff, Int32.reduceLT, Int32.reduceLE, Int32.reduceAdd, Int32.reduceSub, Int32.reduceMul, Int32.reduceToNatClampNeg, Int32.reduceOfNat, Int32.reduceOfInt, Int64.reduceLT, Int64.reduceAdd, Int64.reduceSub, Int64.reduceMul, String.reduceEq, reduceCtorEq, room_c, room_s]
    refine kf0_319 (con2 _ 5 _ _ _ _ _ rfl (by decide)) ?_
    simp only [↓B0, ↓idx_c, ↓setN_c, ↓idxN_c, ↓reduceIte, B1, List.length_cons, List.length_nil, List.mem_cons, List.not_mem_nil, or_false, true_or, or_true, true_and, and_true, and_self, not_true_eq_false, not_false_eq_true, eq_self, ne_eq, Nat.zero_le, Nat.le_refl, Nat.reduceAdd, Nat.reduceSub, Nat.reduceEqDiff, Nat.reduceLeDiff, Int32.reduceLT, Int32.reduceLE, Int32.reduceAdd, Int32.reduceSub, Int32.reduceMul, Int32.reduceToNatClampNeg, Int32.reduceOfNat, Int32.reduceOfInt, Int64.reduceLT, Int64.reduceAdd, Int64.reduceSub, Int64.reduceMul, String.reduceEq, reduceCtorEq, room_c, room_s, sm, t3]
    refine r0 300 ?_
    simp only [↓S0, ↓B0, ↓idx_c, ↓setN_c, ↓idxN_c, ↓reduceIte, B1, List.length_cons, List.length_nil, List.mem_cons, List.not_mem_nil, or_false, true_or, or_true, true_and, and_true, and_self, not_true_eq_false, not_false_eq_true, eq_self, ne_eq, Nat.zero_le, Nat.le_refl, Nat.reduceAdd, Nat.reduceSub, Nat.reduceEqDiff, Nat.reduceLeDiff, Int32.reduceLT, Int32.reduceLE, Int32.reduceAdd, Int32.reduceSub, Int32.reduceMul, Int32.reduceToNatClampNeg, Int32.reduceOfNat, Int32.reduceOfInt, Int64.reduceLT, Int64.reduceAdd, Int64.reduceSub, Int64.reduceMul, String.reduceEq, reduceCtorEq, room_c, room_s]
    refine kf0_348 (con2 _ 6 _ _ _ _ _ rfl (by decide)) ?_
    simp only [↓B0, ↓idx_c, ↓setN_c, ↓idxN_c, ↓reduceIte, B1, List.length_cons, List.length_nil, List.mem_cons, List.not_mem_nil, or_false, true_or, or_true, true_and, and_true, and_self, not_true_eq_false, not_false_eq_true, eq_self, ne_eq, Nat.zero_le, Nat.le_refl, Nat.reduceAdd, Nat.reduceSub, Nat.reduceEqDiff, Nat.reduceLeDiff, Int32.reduceLT, Int32.reduceLE, Int32.reduceAdd, Int32.reduceSub, Int32.reduceMul, Int32.reduceToNatClampNeg, Int32.reduceOfNat, Int32.reduceOfInt, Int64.reduceLT, Int64.reduceAdd, Int64.reduceSub, Int64.reduceMul, String.reduceEq, reduceCtorEq, room_c, room_s, sm, t4]
    refine r0 300 ?_
    simp only [↓S0, ↓B0, ↓idx_c, ↓setN_c, ↓idxN_c, ↓reduceIte, B1, List.length_cons, List.length_nil, List.mem_cons, List.not_mem_nil, or_false, true_or, or_true, true_and, and_true, and_self, not_true_eq_false, not_false_eq_true, eq_self, ne_eq, Nat.zero_le, Nat.le_refl, Nat.reduceAdd, Nat.reduceSub, Nat.reduceEqDiff, Nat.reduceLeDiff, Int32.reduceLT, Int32.reduceLE, Int32.reduceAdd, Int32.reduceSub, Int32.reduceMul, Int32.reduceToNatClampNeg, Int32.reduceOfNat, Int32.reduceOfInt, Int64.reduceLT, Int64.reduceAdd, Int64.reduceSub, Int64.reduceMul, String.reduceEq, reduceCtorEq, room_c, room_s]
    refine kf0_377 (con2 _ 7 _ _ _ _ _ rfl (by decide)) ?_
    simp only [↓B0, ↓idx_c, ↓setN_c, ↓idxN_c, ↓reduceIte, B1, List.length_cons, List.length_nil, List.mem_cons, List.not_mem_nil, or_false, true_or, or_true, true_and, and_true, and_self, not_true_eq_false, not_false_eq_true, eq_self, ne_eq, Nat.zero_le, Nat.le_refl, Nat.reduceAdd, Nat.reduceSub, Nat.reduceEqDiff, Nat.reduceLeDiff, Int32.reduceLT, Int32.reduceLE, Int32.reduceAdd, Int32.reduceSub, Int32.reduceMul, Int32.reduceToNatClampNeg, Int32.reduceOfNat, Int32.reduceOfInt, Int64.reduceLT, Int64.reduceAdd, Int64.reduceSub, Int64.reduceMul, String.reduceEq, reduceCtorEq, room_c, room_s, sm]
    refine r0 300 ?_
    simp only [↓S0, ↓B0, ↓idx_c, ↓setN_c, ↓idxN_c, ↓reduceIte, B1, List.length_cons, List.length_nil, List.mem_cons, List.not_mem_nil, or_false, true_or, or_true, true_and, and_true, and_self, not_true_eq_false, not_false_eq_true, eq_self, ne_eq, Nat.zero_le, Nat.le_refl, Nat.reduceAdd, Nat.reduceSub, Nat.reduceEqDiff, Nat.reduceLeDiff, Int32.reduceLT, Int32.reduceLE, Int32.reduceAdd, Int32.reduceSub, Int32.reduceMul, Int32.reduceToNatClampNeg, Int32.reduceOfNat, Int32.reduceOfInt, Int64.reduceLT, Int64.reduceAdd, Int64.reduceSub, Int64.reduceMul, String.reduceEq, reduceCtorEq, room_c, room_s]
    refine kf0_406 (con2 _ 8 _ _ _ _ _ rfl (by decide)) ?_
    simp only [↓B0, ↓idx_c, ↓setN_c, ↓idxN_c, ↓reduceIte, B1, List.length_cons, List.length_nil, List.mem_cons, List.not_mem_nil, or_false, true_or, or_true, true_and, and_true, and_self, not_true_eq_false, not_false_eq_true, eq_self, ne_eq, Nat.zero_le, Nat.le_refl, Nat.reduceAdd, Nat.reduceSub, Nat.reduceEqDiff, Nat.reduceLeDiff, Int32.reduceLT, Int32.reduceLE, Int32.reduceAdd, Int32.reduceSub, Int32.reduceMul, Int32.reduceToNatClampNeg, Int32.reduceOfNat, Int32.reduceOfInt, Int64.reduceLT, Int64.reduceAdd, Int64.reduceSub, Int64.reduceMul, String.reduceEq, reduceCtorEq, room_c, room_s, sm]
    refine r0 300 ?_
    simp only [↓S0, ↓B0, ↓idx_c, ↓setN_c, ↓idxN_c, ↓reduceIte, B1, List.length_cons, List.length_nil, List.mem_cons, List.not_mem_nil, or_false, true_or, or_true, true_and, and_true, and_self, not_true_eq_false, not_false_eq_true, eq_self, ne_eq, Nat.zero_le, Nat.le_refl, Nat.reduceAdd, Nat.reduceSub, Nat.reduceEqDiff, Nat.reduceLeDiff, Int32.reduceLT, Int32.reduceLE, Int32.reduceAdd, Int32.reduceSub, Int32.reduceMul, Int32.reduceToNatClampNeg, Int32.reduceOfNat, Int32.reduceOfInt, Int64.reduceLT, Int64.reduceAdd, Int64.reduceSub, Int64.reduceMul, String.reduceEq, reduceCtorEq, room_c, room_s]
    refine kf0_435 (con2 _ 9 _ _ _ _ _ rfl (by decide)) ?_
    simp only [↓B0, ↓idx_c, ↓setN_c, ↓idxN_c, ↓reduceIte, B1, List.length_cons, List.length_nil, List.mem_cons, List.not_mem_nil, or_false, true_or, or_true, true_and, and_true, and_self, not_true_eq_false, not_false_eq_true, eq_self, ne_eq, Nat.zero_le, Nat.le_refl, Nat.reduceAdd, Nat.reduceSub, Nat.reduceEqDiff, Nat.reduceLeDiff, Int32.reduceLT, Int32.reduceLE, Int32.reduceAdd, Int32.reduceSub, Int32.reduceMul, Int32.reduceToNatClampNeg, Int32.reduceOfNat, Int32.reduceOfInt, Int64.reduceLT, Int64.reduceAdd, Int64.reduceSub, Int64.reduceMul, String.reduceEq, reduceCtorEq, room_c, room_s, sm]
    refine r0 300 ?_
    simp only [↓S0, ↓B0, ↓idx_c, ↓setN_c, ↓idxN_c, ↓reduceIte, B1, List.length_cons, List.length_nil, List.mem_cons, List.not_mem_nil, or_false, true_or, or_true, true_and, and_true, and_self, not_true_eq_false, not_false_eq_true, eq_self, ne_eq, Nat.zero_le, Nat.le_refl, Nat.reduceAdd, Nat.reduceSub, Nat.reduceEqDiff, Nat.reduceLeDiff, Int32.reduceLT, Int32.reduceLE, Int32.reduceAdd, Int32.reduceSub, Int32.reduceMul, Int32.reduceToNatClampNeg, Int32.reduceOfNat, Int32.reduceOfInt, Int64.reduceLT, Int64.reduceAdd, Int64.reduceSub, Int64.reduceMul, String.reduceEq, reduceCtorEq, room_c, room_s]
  · obtain ⟨h0, c1, t0⟩ := facts_1 i0 (by omega) (by omega)
    refine r0 300 ?_
    simp only [↓S0, ↓B0, ↓idx_c, ↓setN_c, ↓idxN_c, ↓reduceIte, B1, List.length_cons, List.length_nil, List.mem_cons, List.not_mem_nil, or_false, true_or, or_true, true_and, and_true, and_self, not_true_eq_false, not_false_eq_true, eq_self, ne_eq, Nat.zero_le, Nat.le_refl, Nat.reduceAdd, Nat.reduceSub, Nat.reduceEqDiff, Nat.reduceLeDiff, Int32.reduceLT, Int32.reduceLE, Int32.reduceAdd, Int32.reduceSub, Int32.reduceMul, Int32.reduceToNatClampNeg, Int32.reduceOfNat, Int32.reduceOfInt, Int64.reduceLT, Int64.reduceAdd, Int64.reduceSub, Int64.reduceMul, String.reduceEq, reduceCtorEq, room_c, room_s, hv]
    refine kf0_72 (con1_3_1 (nar .byte i2) i0 h0) (r0 300 ?_)
    simp only [↓S0, ↓B0, ↓idx_c, ↓setN_c, ↓idxN_c, ↓reduceIte, B1, List.length_cons, List.length_nil, List.mem_cons, List.not_mem_nil, or_false, true_or, or_true, true_and, and_true, and_self, not_true_eq_false, not_false_eq_true, eq_self, ne_eq, Nat.zero_le, Nat.le_refl, Nat.reduceAdd, Nat.reduceSub, Nat.reduceEqDiff, Nat.reduceLeDiff, Int32.reduceLT, Int32.reduceLE, Int32.reduceAdd, Int32.reduceSub, Int32.reduceMul, Int32.reduceToNatClampNeg, Int32.reduceOfNat, Int32.reduceOfInt, Int64.reduceLT, Int64.reduceAdd, Int64.reduceSub, Int64.reduceMul, String.reduceEq, reduceCtorEq, room_c, room_s, c1]
    refine kf0_179 (con2 _ 0 _ _ _ _ _ rfl (by decide)) ?_
    simp only [↓B0, ↓idx_c, ↓setN_c, ↓idxN_c, ↓reduceIte, B1, List.length_cons, List.length_nil, List.mem_cons, List.not_mem_nil, or_false, true_or, or_true, true_and, and_true, and_self, not_true_eq_false, not_false_eq_true, eq_self, ne_eq, Nat.zero_le, Nat.le_refl, Nat.reduceAdd, Nat.reduceSub, Nat.reduceEqDiff, Nat.reduceLeDiff, Int32.reduceLT, Int32.reduceLE, Int32.reduceAdd, Int32.reduceSub, Int32.reduceMul, Int32.reduceToNatClampNeg, Int32.reduceOfNat, Int32.reduceOfInt, Int64.reduceLT, Int64.reduceAdd, Int64.reduceSub, Int64.reduceMul, String.reduceEq, reduceCtorEq, room_c, room_s, sm]
    refine r0 300 ?_
    simp only [↓S0, ↓B0, ↓idx_c, ↓setN_c, ↓idxN_c, ↓reduceIte, B1, List.length_cons, List.length_nil, List.mem_cons, List.not_mem_nil, or_false, true_or, or_true, true_and, and_true, and_self, not_true_eq_false, not_false_eq_true, eq_self, ne_eq, Nat.zero_le, Nat.le_refl, Nat.reduceAdd, Nat.reduceSub, Nat.reduceEqDiff, Nat.reduceLeDiff, Int32.reduceLT, Int32.reduceLE, Int32.reduceAdd, Int32.reduceSub, Int32.reduceMul, Int32.reduceToNatClampNeg, Int32.reduceOfNat, Int32.reduceOfInt, Int64.reduceLT, Int64.reduceAdd, Int64.reduceSub, Int64.reduceMul, String.reduceEq, reduceCtorEq, room_c, room_s]
    refine kf0_207 (con2 _ 1 _ _ _ _ _ rfl (by decide)) ?_
    simp only [↓B0, ↓idx_c, ↓setN_c, ↓idxN_c, ↓reduceIte, B1, List.length_cons, List.length_nil, List.mem_cons, List.not_mem_nil, or_false, true_or, or_true, true_and, and_true, and_self, not_true_eq_false, not_false_eq_true, eq_self, ne_eq, Nat.zero_le, Nat.le_refl, Nat.reduceAdd, Nat.reduceSub, Nat.reduceEqDiff, Nat.reduceLeDiff, Int32.reduceLT, Int32.reduceLE, Int32.reduceAdd, Int32.reduceSub, Int32.reduceMul, Int32.reduceToNatClampNeg, Int32.reduceOfNat, Int32.reduceOfInt, Int64.reduceLT, Int64.reduceAdd, Int64.reduceSub, Int64.reduceMul, String.reduceEq, reduceCtorEq, room_c, room_s, sm]
    refine r0 300 ?_
    simp only [↓S0, ↓B0, ↓idx_c, ↓setN_c, ↓idxN_c, ↓reduceIte, B1, List.length_cons, List.length_nil, List.mem_cons, List.not_mem_nil, or_false, true_or, or_true, true_and, and_true, and_self, not_true_eq_false, not_false_eq_true, eq_self, ne_eq, Nat.zero_le, Nat.le_refl, Nat.reduceAdd, Nat.reduceSub, Nat.reduceEqDiff, Nat.reduceLeDiff, Int32.reduceLT, Int32.reduceLE, Int32.reduceAdd, Int32.reduceSub, Int32.reduceMul, Int32.reduceToNatClampNeg, Int32.reduceOfNat, Int32.reduceOfInt, Int64.reduceLT, Int64.reduceAdd, Int64.reduceSub, Int64.reduceMul, String.reduceEq, reduceCtorEq, room_c, room_s]
    refine kf0_235 (con2 _ 2 _ _ _ _ _ rfl (by decide)) ?_
    simp only [↓B0, ↓idx_c, ↓setN_c, ↓idxN_c, ↓reduceIte, B1, List.length_cons, List.length_nil, List.mem_cons, List.not_mem_nil, or_false, true_or, or_true, true_and, and_true, and_self, not_true_eq_false, not_false_eq_true, eq_self, ne_eq, Nat.zero_le, Nat.le_refl, Nat.reduceAdd, Nat.reduceSub, Nat.reduceEqDiff, Nat.reduceLeDiff, Int32.reduceLT, Int32.reduceLE, Int32.reduceAdd, Int32.reduceSub, Int32.reduceMul, Int32.reduceToNatClampNeg, Int32.reduceOfNat, Int32.reduceOfInt, Int64.reduceLT, Int64.reduceAdd, Int64.reduceSub, Int64.reduceMul, String.reduceEq, reduceCtorEq, room_c, room_s, sm]
    refine r0 300 ?_
    simp only [↓S0, ↓B0, ↓idx_c, ↓setN_c, ↓idxN_c, ↓reduceIte, B1, List.length_cons, List.length_nil, List.mem_cons, List.not_mem_nil, or_false, true_or, or_true, true_and, and_true, and_self, not_true_eq_false, not_false_eq_true, eq_self, ne_eq, Nat.zero_le, Nat.le_refl, Nat.reduceAdd, Nat.reduceSub, Nat.reduceEqDiff, Nat.reduceLeDiff, Int32.reduceLT, Int32.reduceLE, Int32.reduceAdd, Int32.reduceSub, Int32.reduceMul, Int32.reduceToNatClampNeg, Int32.reduceOfNat, Int32.reduceOfInt, Int64.reduceLT, Int64.reduceAdd, Int64.reduceSub, Int64.reduceMul, String.reduceEq, reduceCtorEq, room_c, room_s]
    refine kf0_263 (con2 _ 3 _ _ _ _ _ rfl (by decide)) ?_
    simp only [↓B0, ↓idx_c, ↓setN_c, ↓idxN_c, ↓reduceIte, B1, List.length_cons, List.length_nil, List.mem_cons, List.not_mem_nil, or_false, true_or, or_true, true_and, and_true, and_self, not_true_eq_false, not_false_eq_true, eq_self, ne_eq, Nat.zero_le, Nat.le_refl, Nat.reduceAdd, Nat.reduceSub, Nat.reduceEqDiff, Nat.reduceLeDiff, Int32.reduceLT, Int32.reduceLE, Int32.reduceAdd, Int32.reduceSub, Int32.reduceMul, Int32.reduceToNatClampNeg, Int32.reduceOfNat, Int32.reduceOfInt, Int64.reduceLT, Int64.reduceAdd, Int64.reduceSub, Int64.reduceMul, String.reduceEq, reduceCtorEq, room_c, room_s, sm, t0]
    refine r0 300 ?_
    simp only [↓S0, ↓B0, ↓idx_c, ↓setN_c, ↓idxN_c, ↓reduceIte, B1, List.length_cons, List.length_nil, List.mem_cons, List.not_mem_nil, or_false, true_or, or_true, true_and, and_true, and_self, not_true_eq_false, not_false_eq_true, eq_self, ne_eq, Nat.zero_le, Nat.le_refl, Nat.reduceAdd, Nat.reduceSub, Nat.reduceEqDiff, Nat.reduceLeDiff, Int32.reduceLT, Int32.reduceLE, Int32.reduceAdd, Int32.reduceSub, Int32.reduceMul, Int32.reduceToNatClampNeg, Int32.reduceOfNat, Int32.reduceOfInt, Int64.reduceLT, Int64.reduceAdd, Int64.reduceSub, Int64.reduceMul, String.reduceEq, reduceCtorEq, room_c, room_s]
    refine kf0_291 (con2 _ 4 _ _ _ _ _ rfl (by decide)) ?_
    simp only [↓B0, ↓idx_c, ↓setN_c, ↓idxN_c, ↓reduceIte, B1, List.length_cons, List.length_nil, List.mem_cons, List.not_mem_nil, or_false, true_or, or_true, true_and, and_true, and_self, not_true_eq_false, not_false_eq_true, eq_self, ne_eq, Nat.zero_le, Nat.le_refl, Nat.reduceAdd, Nat.reduceSub, Nat.reduceEqDiff, Nat.reduceLeDiff, Int32.reduceLT, Int32.reduceLE, Int32.reduceAdd, Int32.reduceSub, Int32.reduceMul, Int32.reduceToNatClampNeg, Int32.reduceOfNat, Int32.reduceOfInt, Int64.reduceLT, Int64.reduceAdd, Int64.reduceSub, Int64.reduceMul, String.reduceEq, reduceCtorEq, room_c, room_s, sm]
    refine r0 300 ?_
    simp only [↓S0, ↓B0, ↓idx_c, ↓setN_c, ↓idxN_c, ↓reduceIte, B1, List.length_cons, List.length_nil, List.mem_cons, List.not_mem_nil, or_false, true_or, or_true, true_and, and_true, and_self, not_true_eq_false, not_false_eq_true, eq_self, ne_eq, Nat.zero_le, Nat.le_refl, Nat.reduceAdd, Nat.reduceSub, Nat.reduceEqDiff, Nat.reduceLeDiff, Int32.reduceLT, Int32.reduceLE, Int32.reduceAdd, Int32.reduceSub, Int32.reduceMul, Int32.reduceToNatClampNeg, Int32.reduceOfNat, Int32.reduceOfInt, Int64.reduceLT, Int64.reduceAdd, Int64.reduceSub, Int64.reduceMul, String.reduceEq, reduceCtorEq, room_c, room_s]
    refine kf0_319 (con2 _ 5 _ _ _ _ _ rfl (by decide)) ?_
    simp only [↓B0, ↓idx_c, ↓setN_c, ↓idxN_c, ↓reduceIte, B1, List.length_cons, List.length_nil, List.mem_cons, List.not_mem_nil, or_false, true_or, or_true, true_and, and_true, and_self, not_true_eq_false, not_false_eq_true, eq_self, ne_eq, Nat.zero_le, Nat.le_refl, Nat.reduceAdd, Nat.reduceSub, Nat.reduceEqDiff, Nat.reduceLeDiff, Int32.reduceLT, Int32.reduceLE, Int32.reduceAdd, Int32.reduceSub, Int32.reduceMul, Int32.reduceToNatClampNeg, Int32.reduceOfNat, Int32.reduceOfInt, Int64.reduceLT, Int64.reduceAdd, Int64.reduceSub, Int64.reduceMul, String.reduceEq, reduceCtorEq, room_c, room_s, sm]
    refine r0 300 ?_
    simp only [↓S0, ↓B0, ↓idx_c, ↓setN_c, ↓idxN_c, ↓reduceIte, B1, List.length_cons, List.length_nil, List.mem_cons, List.not_mem_nil, or_false, true_or, or_true, true_and, and_true, and_self, not_true_eq_false, not_false_eq_true, eq_self, ne_eq, Nat.zero_le, Nat.le_refl, Nat.reduceAdd, Nat.reduceSub, Nat.reduceEqDiff, Nat.reduceLeDiff, Int32.reduceLT, Int32.reduceLE, Int32.reduceAdd, Int32.reduceSub, Int32.reduceMul, Int32.reduceToNatClampNeg, Int32.reduceOfNat, Int32.reduceOfInt, Int64.reduceLT, Int64.reduceAdd, Int64.reduceSub, Int64.reduceMul, String.reduceEq, reduceCtorEq, room_c, room_s]
    refine kf0_348 (con2 _ 6 _ _ _ _ _ rfl (by decide)) ?_
    simp only [↓B0, ↓idx_c, ↓setN_c, ↓idxN_c, ↓reduceIte, B1, List.length_cons, List.length_nil, List.mem_cons, List.not_mem_nil, or_false, true_or, or_true, true_and, and_true, and_self, not_true_eq_false, not_false_eq_true, eq_self, ne_eq, Nat.zero_le, Nat.le_refl, Nat.reduceAdd, Nat.reduceSub, Nat.reduceEqDiff, Nat.reduceLeDiff, Int32.reduceLT, Int32.reduceLE, Int32.reduceAdd, Int32.reduceSub, Int32.reduceMul, Int32.reduceToNatClampNeg, Int32.reduceOfNat, Int32.reduceOfInt, Int64.reduceLT, Int64.reduceAdd, Int64.reduceSub, Int64.reduceMul, String.reduceEq, reduceCtorEq, room_c, room_s, sm]
    refine r0 300 ?_
    simp only [↓S0, ↓B0, ↓idx_c, ↓setN_c, ↓idxN_c, ↓reduceIte, B1, List.length_cons, List.length_nil, List.mem_cons, List.not_mem_nil, or_false, true_or, or_true, true_and, and_true, and_self, not_true_eq_false, not_false_eq_true, eq_self, ne_eq, Nat.zero_le, Nat.le_refl, Nat.reduceAdd, Nat.reduceSub, Nat.reduceEqDiff, Nat.reduceLeDiff, Int32.reduceLT, Int32.reduceLE, Int32.reduceAdd, Int32.reduceSub, Int32.reduceMul, Int32.reduceToNatClampNeg, Int32.reduceOfNat, Int32.reduceOfInt, Int64.reduceLT, Int64.reduceAdd, Int64.reduceSub, Int64.reduceMul, String.reduceEq, reduceCtorEq, room_c, room_s]
    refine kf0_377 (con2 _ 7 _ _ _ _ _ rfl (by decide)) ?_
    simp only [↓B0, ↓idx_c, ↓setN_c, ↓idxN_c, ↓reduceIte, B1, List.length_cons, List.length_nil, List.mem_cons, List.not_mem_nil, or_false, true_or, or_true, true_and, and_true, and_self, not_true_eq_false, not_false_eq_true, eq_self, ne_eq, Nat.zero_le, Nat.le_refl, Nat.reduceAdd, Nat.reduceSub, Nat.reduceEqDiff, Nat.reduceLeDiff, Int32.reduceLT, Int32.reduceLE, Int32.reduceAdd, Int32.reduceSub, Int32.reduceMul, Int32.reduceToNatClampNeg, Int32.reduceOfNat, Int32.reduceOfInt, Int64.reduceLT, Int64.reduceAdd, Int64.reduceSub, Int64.reduceMul, String.reduceEq, reduceCtorEq, room_c, room_s, sm]
    refine r0 300 ?_
    simp only [↓S0, ↓B0, ↓idx_c, ↓setN_c, ↓idxN_c, ↓reduceIte, B1, List.length_cons, List.length_nil, List.mem_cons, List.not_mem_nil, or_false, true_or, or_true, true_and, and_true, and_self, not_true_eq_false, not_false_eq_true, eq_self, ne_eq, Nat.zero_le, Nat.le_refl, Nat.reduceAdd, Nat.reduceSub, Nat.reduceEqDiff, Nat.reduceLeDiff, Int32.reduceLT, Int32.reduceLE, Int32.reduceAdd, Int32.reduceSub, Int32.reduceMul, Int32.reduceToNatClampNeg, Int32.reduceOfNat, Int32.reduceOfInt, Int64.reduceLT, Int64.reduceAdd, Int64.reduceSub, Int64.reduceMul, String.reduceEq, reduceCtorEq, room_c, room_s]
    refine kf0_406 (con2 _ 8 _ _ _ _ _ rfl (by decide)) ?_
    simp only [↓B0, ↓idx_c, ↓setN_c, ↓idxN_c, ↓reduceIte, B1, List.length_cons, List.length_nil, List.mem_cons, List.not_mem_nil, or_false, true_or, or_true, true_and, and_true, and_self, not_true_eq_false, not_false_eq_true, eq_self, ne_eq, Nat.zero_le, Nat.le_refl, Nat.reduceAdd, Nat.reduceSub, Nat.reduceEqDiff, Nat.reduceLeDiff, Int32.reduceLT, Int32.reduceLE, Int32.reduceAdd, Int32.reduceSub, Int32.reduceMul, Int32.reduceToNatClampNeg, Int32.reduceOfNat, Int32.reduceOfInt, Int64.reduceLT, Int64.reduceAdd, Int64.reduceSub, Int64.reduceMul, String.reduceEq, reduceCtorEq, room_c, room_s, sm]
    refine r0 300 ?_
    simp only [↓S0, ↓B0, ↓idx_c, ↓setN_c, ↓idxN_c, ↓reduceIte, B1, List.length_cons, List.length_nil, List.mem_cons, List.not_mem_nil, or_false, true_or, or_true, true_and, and_true, and_self, not_true_eq_false, not_false_eq_true, eq_self, ne_eq, Nat.zero_le, Nat.le_refl, Nat.reduceAdd, Nat.reduceSub, Nat.reduceEqDiff, Nat.reduceLeDiff, Int32.reduceLT, Int32.reduceLE, Int32.reduceAdd, Int32.reduceSub, Int32.reduceMul, Int32.reduceToNatClampNeg, Int32.reduceOfNat, Int32.reduceOfInt, Int64.reduceLT, Int64.reduceAdd, Int64.reduceSub, Int64.reduceMul, String.reduceEq, reduceCtorEq, room_c, room_s]
    refine kf0_435 (con2 _ 9 _ _ _ _ _ rfl (by decide)) ?_
    simp only [↓B0, ↓idx_c, ↓setN_c, ↓idxN_c, ↓reduceIte, B1, List.length_cons, List.length_nil, List.mem_cons, List.not_mem_nil, or_false, true_or, or_true, true_and, and_true, and_self, not_true_eq_false, not_false_eq_true, eq_self, ne_eq, Nat.zero_le, Nat.le_refl, Nat.reduceAdd, Nat.reduceSub, Nat.reduceEqDiff, Nat.reduceLeDiff, Int32.reduceLT, Int32.reduceLE, Int32.reduceAdd, Int32.reduceSub, Int32.reduceMul, Int32.reduceToNatClampNeg, Int32.reduceOfNat, Int32.reduceOfInt, Int64.reduceLT, Int64.reduceAdd, Int64.reduceSub, Int64.reduceMul, String.reduceEq, reduceCtorEq, room_c, room_s, sm]
    refine r0 300 ?_
    simp only [↓S0, ↓B0, ↓idx_c, ↓setN_c, ↓idxN_c, ↓reduceIte, B1, List.length_cons, List.length_nil, List.mem_cons, List.not_mem_nil, or_false, true_or, or_true, true_and, and_true, and_self, not_true_eq_false, not_false_eq_true, eq_self, ne_eq, Nat.zero_le, Nat.le_refl, Nat.reduceAdd, Nat.reduceSub, Nat.reduceEqDiff, Nat.reduceLeDiff, Int32.reduceLT, Int32.reduceLE, Int32.reduceAdd, Int32.reduceSub, Int32.reduceMul, Int32.reduceToNatClampNeg, Int32.reduceOfNat, Int32.reduceOfInt, Int64.reduceLT, Int64.reduceAdd, Int64.reduceSub, Int64.reduceMul, String.reduceEq, reduceCtorEq, room_c, room_s]
  · obtain ⟨h0, h1, c1, c2, t0, t1⟩ := facts_2 i0 (by omega) (by omega)
    refine r0 300 ?_
    simp only [↓S0, ↓B0, ↓idx_c, ↓setN_c, ↓idxN_c, ↓reduceIte, B1, List.length_cons, List.length_nil, List.mem_cons, List.not_mem_nil, or_false, true_or, or_true, true_and, and_true, and_self, not_true_eq_false, not_false_eq_true, eq_self, ne_eq, Nat.zero_le, Nat.le_refl, Nat.reduceAdd, Nat.reduceSub, Nat.reduceEqDiff, Nat.reduceLeDiff, Int32.reduceLT, Int32.reduceLE, Int32.reduceAdd, Int32.reduceSub, Int32.reduceMul, Int32.reduceToNatClampNeg, Int32.reduceOfNat, Int32.reduceOfInt, Int64.reduceLT, Int64.reduceAdd, Int64.reduceSub, Int64.reduceMul, String.reduceEq, reduceCtorEq, room_c, room_s, hv]
    refine kf0_72 (con1_3_2 (nar .byte i2) i0 h0 h1) (r0 300 ?_)
    simp only [↓S0, ↓B0, ↓idx_c, ↓setN_c, ↓idxN_c, ↓reduceIte, B1, List.length_cons, List.length_nil, List.mem_cons, List.not_mem_nil, or_false, true_or, or_true, true_and, and_true, and_self, not_true_eq_false, not_false_eq_true, eq_self, ne_eq, Nat.zero_le, Nat.le_refl, Nat.reduceAdd, Nat.reduceSub, Nat.reduceEqDiff, Nat.reduceLeDiff, Int32.reduceLT, Int32.reduceLE, Int32.reduceAdd, Int32.reduceSub, Int32.reduceMul, Int32.reduceToNatClampNeg, Int32.reduceOfNat, Int32.reduceOfInt, Int64.reduceLT, Int64.reduceAdd, Int64.reduceSub, Int64.reduceMul, String.reduceEq, reduceCtorEq, room_c, room_s, c1, c2]
    refine kf0_179 (con2 _ 0 _ _ _ _ _ rfl (by decide)) ?_
    simp only [↓B0, ↓idx_c, ↓setN_c, ↓idxN_c, ↓reduceIte, B1, List.length_cons, List.length_nil, List.mem_cons, List.not_mem_nil, or_false, true_or, or_true, true_and, and_true, and_self, not_true_eq_false, not_false_eq_true, eq_self, ne_eq, Nat.zero_le, Nat.le_refl, Nat.reduceAdd, Nat.reduceSub, Nat.reduceEqDiff, Nat.reduceLeDiff, Int32.reduceLT, Int32.reduceLE, Int32.reduceAdd, Int32.reduceSub, Int32.reduceMul, Int32.reduceToNatClampNeg, Int32.reduceOfNat, Int32.reduceOfInt, Int64.reduceLT, Int64.reduceAdd, Int64.reduceSub, Int64.reduceMul, String.reduceEq, reduceCtorEq, room_c, room_s, sm]
    refine r0 300 ?_
    simp only [↓S0, ↓B0, ↓idx_c, ↓setN_c, ↓idxN_c, ↓reduceIte, B1, List.length_cons, List.length_nil, List.mem_cons, List.not_mem_nil, or_false, true_or, or_true, true_and, and_true, and_self, not_true_eq_false, not_false_eq_true, eq_self, ne_eq, Nat.zero_le, Nat.le_refl, Nat.reduceAdd, Nat.reduceSub, Nat.reduceEqDiff, Nat.reduceLeDiff, Int32.reduceLT, Int32.reduceLE, Int32.reduceAdd, Int32.reduceSub, Int32.reduceMul, Int32.reduceToNatClampNeg, Int32.reduceOfNat, Int32.reduceOfInt, Int64.reduceLT, Int64.reduceAdd, Int64.reduceSub, Int64.reduceMul, String.reduceEq, reduceCtorEq, room_c, room_s]
    refine kf0_207 (con2 _ 1 _ _ _ _ _ rfl (by decide)) ?_
    simp only [↓B0, ↓idx_c, ↓setN_c, ↓idxN_c, ↓reduceIte, B1, List.length_cons, List.length_nil, List.mem_cons, List.not_mem_nil, or_false, true_or, or_true, true_and, and_true, and_self, not_true_eq_false, not_false_eq_true, eq_self, ne_eq, Nat.zero_le, Nat.le_refl, Nat.reduceAdd, Nat.reduceSub, Nat.reduceEqDiff, Nat.reduceLeDiff, Int32.reduceLT, Int32.reduceLE, Int32.reduceAdd, Int32.reduceSub, Int32.reduceMul, Int32.reduceToNatClampNeg, Int32.reduceOfNat, Int32.reduceOfInt, Int64.reduceLT, Int64.reduceAdd, Int64.reduceSub, Int64.reduceMul, String.reduceEq, reduceCtorEq, room_c, room_s, sm]
    refine r0 300 ?_
    simp only [↓S0, ↓B0, ↓idx_c, ↓setN_c, ↓idxN_c, ↓reduceIte, B1, List.length_cons, List.length_nil, List.mem_cons, List.not_mem_nil, or_false, true_or, or_true, true_and, and_true, and_self, not_true_eq_false, not_false_eq_true, eq_self, ne_eq, Nat.zero_le, Nat.le_refl, Nat.reduceAdd, Nat.reduceSub, Nat.reduceEqDiff, Nat.reduceLeDiff, Int32.reduceLT, Int32.reduceLE, Int32.reduceAdd, Int32.reduceSub, Int32.reduceMul, Int32.reduceToNatClampNeg, Int32.reduceOfNat, Int32.reduceOfInt, Int64.reduceLT, Int64.reduceAdd, Int64.reduceSub, Int64.reduceMul, String.reduceEq, reduceCtorEq, room_c, room_s]
    refine kf0_235 (con2 _ 2 _ _ _ _ _ rfl (by decide)) ?_
    simp only [↓B0, ↓idx_c, ↓setN_c, ↓idxN_c, ↓reduceIte, B1, List.length_cons, List.length_nil, List.mem_cons, List.not_mem_nil, or_false, true_or, or_true, true_and, and_true, and_self, not_true_eq_false, not_false_eq_true, eq_self, ne_eq, Nat.zero_le, Nat.le_refl, Nat.reduceAdd, Nat.reduceSub, Nat.reduceEqDiff, Nat.reduceLeDiff, Int32.reduceLT, Int32.reduceLE, Int32.reduceAdd, Int32.reduceSub, Int32.reduceMul, Int32.reduceToNatClampNeg, Int32.reduceOfNat, Int32.reduceOfInt, Int64.reduceLT, Int64.reduceAdd, Int64.reduceSub, Int64.reduceMul, String.reduceEq, reduceCtorEq, room_c, room_s, sm]
    refine r0 300 ?_
    simp only [↓S0, ↓B0, ↓idx_c, ↓setN_c, ↓idxN_c, ↓reduceIte, B1, List.length_cons, List.length_nil, List.mem_cons, List.not_mem_nil, or_false, true_or, or_true, true_and, and_true, and_self, not_true_eq_false, not_false_eq_true, eq_self, ne_eq, Nat.zero_le, Nat.le_refl, Nat.reduceAdd, Nat.reduceSub, Nat.reduceEqDiff, Nat.reduceLeDiff, Int32.reduceLT, Int32.reduceLE, Int32.reduceAdd, Int32.reduceSub, Int32.reduceMul, Int32.reduceToNatClampNeg, Int32.reduceOfNat, Int32.reduceOfInt, Int64.reduceLT, Int64.reduceAdd, Int64.reduceSub, Int64.reduceMul, String.reduceEq, reduceCtorEq, room_c, room_s]
    refine kf0_263 (con2 _ 3 _ _ _ _ _ rfl (by decide)) ?_
    simp only [↓B0, ↓idx_c, ↓setN_c, ↓idxN_c, ↓reduceIte, B1, List.length_cons, List.length_nil, List.mem_cons, List.not_mem_nil, or_false, true_or, or_true, true_and, and_true, and_self, not_true_eq_false, not_false_eq_true, eq_self, ne_eq, Nat.zero_le, Nat.le_refl, Nat.reduceAdd, Nat.reduceSub, Nat.reduceEqDiff, Nat.reduceLeDiff, Int32.reduceLT, Int32.reduceLE, Int32.reduceAdd, Int32.reduceSub, Int32.reduceMul, Int32.reduceToNatClampNeg, Int32.reduceOfNat, Int32.reduceOfInt, Int64.reduceLT, Int64.reduceAdd, Int64.reduceSub, Int64.reduceMul, String.reduceEq, reduceCtorEq, room_c, room_s, sm, t0]
    refine r0 300 ?_
    simp only [↓S0, ↓B0, ↓idx_c, ↓setN_c, ↓idxN_c, ↓reduceIte, B1, List.length_cons, List.length_nil, List.mem_cons, List.not_mem_nil, or_false, true_or, or_true, true_and, and_true, and_self, not_true_eq_false, not_false_eq_true, eq_self, ne_eq, Nat.zero_le, Nat.le_refl, Nat.reduceAdd, Nat.reduceSub, Nat.reduceEqDiff, Nat.reduceLeDiff, Int32.reduceLT, Int32.reduceLE, Int32.reduceAdd, Int32.reduceSub, Int32.reduceMul, Int32.reduceToNatClampNeg, Int32.reduceOfNat, Int32.reduceOfInt, Int64.reduceLT, Int64.reduceAdd, Int64.reduceSub, Int64.reduceMul, String.reduceEq, reduceCtorEq, room_c, room_s]
    refine kf0_291 (con2 _ 4 _ _ _ _ _ rfl (by decide)) ?_
    simp only [↓B0, ↓idx_c, ↓setN_c, ↓idxN_c, ↓reduceIte, B1, List.length_cons, List.length_nil, List.mem_cons, List.not_mem_nil, or_false, true_or, or_true, true_and, and_true, and_self, not_true_eq_false, not_false_eq_true, eq_self, ne_eq, Nat.zero_le, Nat.le_refl, Nat.reduceAdd, Nat.reduceSub, Nat.reduceEqDiff, Nat.reduceLeDiff, Int32.reduceLT, Int32.reduceLE, Int32.reduceAdd, Int32.reduceSub, Int32.reduceMul, Int32.reduceToNatClampNeg, Int32.reduceOfNat, Int32.reduceOfInt, Int64.reduceLT, Int64.reduceAdd, Int64.reduceSub, Int64.reduceMul, String.reduceEq, reduceCtorEq, room_c, room_s, sm, t1]
    refine r0 300 ?_
    simp only [↓S0, ↓B0, ↓idx_c, ↓setN_c, ↓idxN_c, ↓reduceIte, B1, List.length_cons, List.length_nil, List.mem_cons, List.not_mem_nil, or_false, true_or, or_true, true_and, and_true, and_self, not_true_eq_false, not_false_eq_true, eq_self, ne_eq, Nat.zero_le, Nat.le_refl, Nat.reduceAdd, Nat.reduceSub, Nat.reduceEqDiff, Nat.reduceLeDiff, Int32.reduceLT, Int32.reduceLE, Int32.reduceAdd, Int32.reduceSub, Int32.reduceMul, Int32.reduceToNatClampNeg, Int32.reduceOfNat, Int32.reduceOfInt, Int64.reduceLT, Int64.reduceAdd, Int64.reduceSub, Int64.reduceMul, String.reduceEq, reduceCtorEq, room_c, room_s]
    refine kf0_319 (con2 _ 5 _ _ _ _ _ rfl (by decide)) ?_
    simp only [↓B0, ↓idx_c, ↓setN_c, ↓idxN_c, ↓reduceIte, B1, List.length_cons, List.length_nil, List.mem_cons, List.not_mem_nil, or_false, true_or, or_true, true_and, and_true, and_self, not_true_eq_false, not_false_eq_true, eq_self, ne_eq, Nat.zero_le, Nat.le_refl, Nat.reduceAdd, Nat.reduceSub, Nat.reduceEqDiff, Nat.reduceLeDiff, Int32.reduceLT, Int32.reduceLE, Int32.reduceAdd, Int32.reduceSub, Int32.reduceMul, Int32.reduceToNatClampNeg, Int32.reduceOfNat, Int32.reduceOfInt, Int64.reduceLT, Int64.reduceAdd, Int64.reduceSub, Int64.reduceMul, String.reduceEq, reduceCtorEq, room_c, room_s, sm]
    refine r0 300 ?_
    simp only [↓S0, ↓B0, ↓idx_c, ↓setN_c, ↓idxN_c, ↓reduceIte, B1, List.length_cons, List.length_nil, List.mem_cons, List.not_mem_nil, or_false, true_or, or_true, true_and, and_true, and_self, not_true_eq_false, not_false_eq_true, eq_self, ne_eq, Nat.zero_le, Nat.le_refl, Nat.reduceAdd, Nat.reduceSub, Nat.reduceEqDiff, Nat.reduceLeDiff, Int32.reduceLT, Int32.reduceLE, Int32.reduceAdd, Int32.reduceSub, Int32.reduceMul, Int32.reduceToNatClampNeg, Int32.reduceOfNat, Int32.reduceOfInt, Int64.reduceLT, Int64.reduceAdd, Int64.reduceSub, Int64.reduceMul, String.reduceEq, reduceCtorEq, room_c, room_s]
    refine kf0_348 (con2 _ 6 _ _ _ _ _ rfl (by decide)) ?_
    simp only [↓B0, ↓idx_c, ↓setN_c, ↓idxN_c, ↓reduceIte, B1, List.length_cons, List.length_nil, List.mem_cons, List.not_mem_nil, or_false, true_or, or_true, true_and, and_true, and_self, not_true_eq_false, not_false_eq_true, eq_self, ne_eq, Nat.zero_le, Nat.le_refl, Nat.reduceAdd, Nat.reduceSub, Nat.reduceEqDiff, Nat.reduceLeDiff, Int32.reduceLT, Int32.reduceLE, Int32.reduceAdd, Int32.reduceSub, Int32.reduceMul, Int32.reduceToNatClampNeg, Int32.reduceOfNat, Int32.reduceOfInt, Int64.reduceLT, Int64.reduceAdd, Int64.reduceSub, Int64.reduceMul, String.reduceEq, reduceCtorEq, room_c, room_s, sm]
    refine r0 300 ?_
    simp only [↓S0, ↓B0, ↓idx_c, ↓setN_c, ↓idxN_c, ↓reduceIte, B1, List.length_cons, List.length_nil, List.mem_cons, List.not_mem_nil, or_false, true_or, or_true, true_and, and_true, and_self, not_true_eq_false, not_false_eq_true, eq_self, ne_eq, Nat.zero_le, Nat.le_refl, Nat.reduceAdd, Nat.reduceSub, Nat.reduceEqDiff, Nat.reduceLeDiff, Int32.reduceLT, Int32.reduceLE, Int32.reduceAdd, Int32.reduceSub, Int32.reduceMul, Int32.reduceToNatClampNeg, Int32.reduceOfNat, Int32.reduceOfInt, Int64.reduceLT, Int64.reduceAdd, Int64.reduceSub, Int64.reduceMul, String.reduceEq, reduceCtorEq, room_c, room_s]
    refine kf0_377 (con2 _ 7 _ _ _ _ _ rfl (by decide)) ?_
    simp only [↓B0, ↓idx_c, ↓setN_c, ↓idxN_c, ↓reduceIte, B1, List.length_cons, List.length_nil, List.mem_cons, List.not_mem_nil, or_false, true_or, or_true, true_and, and_true, and_self, not_true_eq_false, not_false_eq_true, eq_self, ne_eq, Nat.zero_le, Nat.le_refl, Nat.reduceAdd, Nat.reduceSub, Nat.reduceEqDiff, Nat.reduceLeDiff, Int32.reduceLT, Int32.reduceLE, Int32.reduceAdd, Int32.reduceSub, Int32.reduceMul, Int32.reduceToNatClampNeg, Int32.reduceOfNat, Int32.reduceOfInt, Int64.reduceLT, Int64.reduceAdd, Int64.reduceSub, Int64.reduceMul, String.reduceEq, reduceCtorEq, room_c, room_s, sm]
    refine r0 300 ?_
    simp only [↓S0, ↓B0, ↓idx_c, ↓setN_c, ↓idxN_c, ↓reduceIte, B1, List.length_cons, List.length_nil, List.mem_cons, List.not_mem_nil, or_false, true_or, or_true, true_and, and_true, and_self, not_true_eq_false, not_false_eq_true, eq_self, ne_eq, Nat.zero_le, Nat.le_refl, Nat.reduceAdd, Nat.reduceSub, Nat.reduceEqDiff, Nat.reduceLeDiff, Int32.reduceLT, Int32.reduceLE, Int32.reduceAdd, Int32.reduceSub, Int32.reduceMul, Int32.reduceToNatClampNeg, Int32.reduceOfNat, Int32.reduceOfInt, Int64.reduceLT, Int64.reduceAdd, Int64.reduceSub, Int64.reduceMul, String.reduceEq, reduceCtorEq, room_c, room_s]
    refine kf0_406 (con2 _ 8 _ _ _ _ _ rfl (by decide)) ?_
    simp only [↓B0, ↓idx_c, ↓setN_c, ↓idxN_c, ↓reduceIte, B1, List.length_cons, List.length_nil, List.mem_cons, List.not_mem_nil, or_false, true_or, or_true, true_and, and_true, and_self, not_true_eq_false, not_false_eq_true, eq_self, ne_eq, Nat.zero_le, Nat.le_refl, Nat.reduceAdd, Nat.reduceSub, Nat.reduceEqDiff, Nat.reduceLeDiff, Int32.reduceLT, Int32.reduceLE, Int32.reduceAdd, Int32.reduceSub, Int32.reduceMul, Int32.reduceToNatClampNeg, Int32.reduceOfNat, Int32.reduceOfInt, Int64.reduceLT, Int64.reduceAdd, Int64.reduceSub, Int64.reduceMul, String.reduceEq, reduceCtorEq, room_c, room_s, sm]
    refine r0 300 ?_
    simp only [↓S0, ↓B0, ↓idx_c, ↓setN_c, ↓idxN_c, ↓reduceIte, B1, List.length_cons, List.length_nil, List.mem_cons, List.not_mem_nil, or_false, true_or, or_true, true_and, and_true, and_self, not_true_eq_false, not_false_eq_true, eq_self, ne_eq, Nat.zero_le, Nat.le_refl, Nat.reduceAdd, Nat.reduceSub, Nat.reduceEqDiff, Nat.reduceLeDiff, Int32.reduceLT, Int32.reduceLE, Int32.reduceAdd, Int32.reduceSub, Int32.reduceMul, Int32.reduceToNatClampNeg, Int32.reduceOfNat, Int32.reduceOfInt, Int64.reduceLT, Int64.reduceAdd, Int64.reduceSub, Int64.reduceMul, String.reduceEq, reduceCtorEq, room_c, room_s]
    refine kf0_435 (con2 _ 9 _ _ _ _ _ rfl (by decide)) ?_
    simp only [↓B0, ↓idx_c, ↓setN_c, ↓idxN_c, ↓reduceIte, B1, List.length_cons, List.length_nil, List.mem_cons, List.not_mem_nil, or_false, true_or, or_true, true_and, and_true, and_self, not_true_eq_false, not_false_eq_true, eq_self, ne_eq, Nat.zero_le, Nat.le_refl, Nat.reduceAdd, Nat.reduceSub, Nat.reduceEqDiff, Nat.reduceLeDiff, Int32.reduceLT, Int32.reduceLE, Int32.reduceAdd, Int32.reduceSub, Int32.reduceMul, Int32.reduceToNatClampNeg, Int32.reduceOfNat, Int32.reduceOfInt, Int64.reduceLT, Int64.reduceAdd, Int64.reduceSub, Int64.reduceMul, String.reduceEq, reduceCtorEq, room_c, room_s, sm]
    refine r0 300 ?_
    simp only [↓S0, ↓B0, ↓idx_c, ↓setN_c, ↓idxN_c, ↓reduceIte, B1, List.length_cons, List.length_nil, List.mem_cons, List.not_mem_nil, or_false, true_or, or_true, true_and, and_true, and_self, not_true_eq_false, not_false_eq_true, eq_self, ne_eq, Nat.zero_le, Nat.le_refl, Nat.reduceAdd, Nat.reduceSub, Nat.reduceEqDiff, Nat.reduceLeDiff, Int32.reduceLT, Int32.reduceLE, Int32.reduceAdd, Int32.reduceSub, Int32.reduceMul, Int32.reduceToNatClampNeg, Int32.reduceOfNat, Int32.reduceOfInt, Int64.reduceLT, Int64.reduceAdd, Int64.reduceSub, Int64.reduceMul, String.reduceEq, reduceCtorEq, room_c, room_s]
  · obtain ⟨h0, h1, h2, c1, c2, c3, t0, t1, t2⟩ := facts_3 i0 (by omega) (by omega)
    refine r0 300 ?_
    simp only [↓S0, ↓B0, ↓idx_c, ↓setN_c, ↓idxN_c, ↓reduceIte, B1, List.length_cons, List.length_nil, List.mem_cons, List.not_mem_nil, or_false, true_or, or_true, true_and, and_true, and_self, not_true_eq_false, not_false_eq_true, eq_self, ne_eq, Nat.zero_le, Nat.le_refl, Nat.reduceAdd, Nat.reduceSub, Nat.reduceEqDiff, Nat.reduceLeDiff, Int32.reduceLT, Int32.reduceLE, Int32.reduceAdd, Int32.reduceSub, Int32.reduceMul, Int32.reduceToNatClampNeg, Int32.reduceOfNat, Int32.reduceOfInt, Int64.reduceLT, Int64.reduceAdd, Int64.reduceSub, Int64.reduceMul, String.reduceEq, reduceCtorEq, room_c, room_s, hv]
    refine kf0_72 (con1_3_3 (nar .byte i2) i0 h0 h1 h2) (r0 300 ?_)
    simp only [↓S0, ↓B0, ↓idx_c, ↓setN_c, ↓idxN_c, ↓reduceIte, B1, List.length_cons, List.length_nil, List.mem_cons, List.not_mem_nil, or_false, true_or, or_true, true_and, and_true, and_self, not_true_eq_false, not_false_eq_true, eq_self, ne_eq, Nat.zero_le, Nat.le_refl, Nat.reduceAdd, Nat.reduceSub, Nat.reduceEqDiff, Nat.reduceLeDiff, Int32.reduceLT, Int32.reduceLE, Int32.reduceAdd, Int32.reduceSub, Int32.reduceMul, Int32.reduceToNatClampNeg, Int32.reduceOfNat, Int32.reduceOfInt, Int64.reduceLT, Int64.reduceAdd, Int64.reduceSub, Int64.reduceMul, String.reduceEq, reduceCtorEq, room_c, room_s, c1, c2, c3]
    refine kf0_179 (con2 _ 0 _ _ _ _ _ rfl (by decide)) ?_
    simp only [↓B0, ↓idx_c, ↓setN_c, ↓idxN_c, ↓reduceIte, B1, List.length_cons, List.length_nil, List.mem_cons, List.not_mem_nil, or_false, true_or, or_true, true_and, and_true, and_self, not_true_eq_false, not_false_eq_true, eq_self, ne_eq, Nat.zero_le, Nat.le_refl, Nat.reduceAdd, Nat.reduceSub, Nat.reduceEqDiff, Nat.reduceLeDiff, Int32.reduceLT, Int32.reduceLE, Int32.reduceAdd, Int32.reduceSub, Int32.reduceMul, Int32.reduceToNatClampNeg, Int32.reduceOfNat, Int32.reduceOfInt, Int64.reduceLT, Int64.reduceAdd, Int64.reduceSub, Int64.reduceMul, String.reduceEq, reduceCtorEq, room_c, room_s, sm]
    refine r0 300 ?_
    simp only [↓S0, ↓B0, ↓idx_c, ↓setN_c, ↓idxN_c, ↓reduceIte, B1, List.length_cons, List.length_nil, List.mem_cons, List.not_mem_nil, or_false, true_or, or_true, true_and, and_true, and_self, not_true_eq_false, not_false_eq_true, eq_self, ne_eq, Nat.zero_le, Nat.le_refl, Nat.reduceAdd, Nat.reduceSub, Nat.reduceEqDiff, Nat.reduceLeDiff, Int32.reduceLT, Int32.reduceLE, Int32.reduceAdd, Int32.reduceSub, Int32.reduceMul, Int32.reduceToNatClampNeg, Int32.reduceOfNat, Int32.reduceOfInt, Int64.reduceLT, Int64.reduceAdd, Int64.reduceSub, Int64.reduceMul, String.reduceEq, reduceCtorEq, room_c, room_s]
    refine kf0_207 (con2 _ 1 _ _ _ _ _ rfl (by decide)) ?_
    simp only [↓B0, ↓idx_c, ↓setN_c, ↓idxN_c, ↓reduceIte, B1, List.length_cons, List.length_nil, List.mem_cons, List.not_mem_nil, or_false, true_or, or_true, true_and, and_true, and_self, not_true_eq_false, not_false_eq_true, eq_self, ne_eq, Nat.zero_le, Nat.le_refl, Nat.reduceAdd, Nat.reduceSub, Nat.reduceEqDiff, Nat.reduceLeDiff, Int32.reduceLT, Int32.reduceLE, Int32.reduceAdd, Int32.reduceSub, Int32.reduceMul, Int32.reduceToNatClampNeg, Int32.reduceOfNat, Int32.reduceOfInt, Int64.reduceLT, Int64.reduceAdd, Int64.reduceSub, Int64.reduceMul, String.reduceEq, reduceCtorEq, room_c, room_s, sm]
    refine r0 300 ?_
    simp only [↓S0, ↓B0, ↓idx_c, ↓setN_c, ↓idxN_c, ↓reduceIte, B1, List.length_cons, List.length_nil, List.mem_cons, List.not_mem_nil, or_false, true_or, or_true, true_and, and_true, and_self, not_true_eq_false, not_false_eq_true, eq_self, ne_eq, Nat.zero_le, Nat.le_refl, Nat.reduceAdd, Nat.reduceSub, Nat.reduceEqDiff, Nat.reduceLeDiff, Int32.reduceLT, Int32.reduceLE, Int32.reduceAdd, Int32.reduceSub, Int32.reduceMul, Int32.reduceToNatClampNeg, Int32.reduceOfNat, Int32.reduceOfInt, Int64.reduceLT, Int64.reduceAdd, Int64.reduceSub, Int64.reduceMul, String.reduceEq, reduceCtorEq, room_c, room_s]
    refine kf0_235 (con2 _ 2 _ _ _ _ _ rfl (by decide)) ?_
    simp only [↓B0, ↓idx_c, ↓setN_c, ↓idxN_c, ↓reduceIte, B1, List.length_cons, List.length_nil, List.mem_cons, List.not_mem_nil, or_false, true_or, or_true, true_and, and_true, and_self, not_true_eq_false, not_false_eq_true, eq_self, ne_eq, Nat.zero_le, Nat.le_refl, Nat.reduceAdd, Nat.reduceSub, Nat.reduceEqDiff, Nat.reduceLeDiff, Int32.reduceLT, Int32.reduceLE, Int32.reduceAdd, Int32.reduceSub, Int32.reduceMul, Int32.reduceToNatClampNeg, Int32.reduceOfNat, Int32.reduceOfInt, Int64.reduceLT, Int64.reduceAdd, Int64.reduceSub, Int64.reduceMul, String.reduceEq, reduceCtorEq, room_c, room_s, sm]
    refine r0 300 ?_
    simp only [↓S0, ↓B0, ↓idx_c, ↓setN_c, ↓idxN_c, ↓reduceIte, B1, List.length_cons, List.length_nil, List.mem_cons, List.not_mem_nil, or_false, true_or, or_true, true_and, and_true, and_self, not_true_eq_false, not_false_eq_true, eq_self, ne_eq, Nat.zero_le, Nat.le_refl, Nat.reduceAdd, Nat.reduceSub, Nat.reduceEqDiff, Nat.reduceLeDiff, Int32.reduceLT, Int32.reduceLE, Int32.reduceAdd, Int32.reduceSub, Int32.reduceMul, Int32.reduceToNatClampNeg, Int32.reduceOfNat, Int32.reduceOfInt, Int64.reduceLT, Int64.reduceAdd, Int64.reduceSub, Int64.reduceMul, String.reduceEq, reduceCtorEq, room_c, room_s]
    refine kf0_263 (con2 _ 3 _ _ _ _ _ rfl (by decide)) ?_
    simp only [↓B0, ↓idx_c, ↓setN_c, ↓idxN_c, ↓reduceIte, B1, List.length_cons, List.length_nil, List.mem_cons, List.not_mem_nil, or_false, true_or, or_true, true_and, and_true, and_self, not_true_eq_false, not_false_eq_true, eq_self, ne_eq, Nat.zero_le, Nat.le_refl, Nat.reduceAdd, Nat.reduceSub, Nat.reduceEqDiff, Nat.reduceLeDiff, Int32.reduceLT, Int32.reduceLE, Int32.reduceAdd, Int32.reduceSub, Int32.reduceMul, Int32.reduceToNatClampNeg, Int32.reduceOfNat, Int32.reduceOfInt, Int64.reduceLT, Int64.reduceAdd, Int64.reduceSub, Int64.reduceMul, String.reduceEq, reduceCtorEq, room_c, room_s, sm, t0]
    refine r0 300 ?_
    simp only [↓S0, ↓B0, ↓idx_c, ↓setN_c, ↓idxN_c, ↓reduceIte, B1, List.length_cons, List.length_nil, List.mem_cons, List.not_mem_nil, or_false, true_or, or_true, true_and, and_true, and_self, not_true_eq_false, not_false_eq_true, eq_self, ne_eq, Nat.zero_le, Nat.le_refl, Nat.reduceAdd, Nat.reduceSub, Nat.reduceEqDiff, Nat.reduceLeDiff, Int32.reduceLT, Int32.reduceLE, Int32.reduceAdd, Int32.reduceSub, Int32.reduceMul, Int32.reduceToNatClampNeg, Int32.reduceOfNat, Int32.reduceOfInt, Int64.reduceLT, Int64.reduceAdd, Int64.reduceSub, Int64.reduceMul, String.reduceEq, reduceCtorEq, room_c, room_s]
    refine kf0_291 (con2 _ 4 _ _ _ _ _ rfl (by decide)) ?_
    simp only [↓B0, ↓idx_c, ↓setN_c, ↓idxN_c, ↓reduceIte, B1, List.length_cons, List.length_nil, List.mem_cons, List.not_mem_nil, or_false, true_or, or_true, true_and, and_true, and_self, not_true_eq_false, not_false_eq_true, eq_self, ne_eq, Nat.zero_le, Nat.le_refl, Nat.reduceAdd, Nat.reduceSub, Nat.reduceEqDiff, Nat.reduceLeDiff, Int32.reduceLT, Int32.reduceLE, Int32.reduceAdd, Int32.reduceSub, Int32.reduceMul, Int32.reduceToNatClampNeg, Int32.reduceOfNat, Int32.reduceOfInt, Int64.reduceLT, Int64.reduceAdd, Int64.reduceSub, Int64.reduceMul, String.reduceEq, reduceCtorEq, room_c, room_s, sm, t1]
    refine r0 300 ?_
    simp only [↓S0, ↓B0, ↓idx_c, ↓setN_c, ↓idxN_c, ↓reduceIte, B1, List.length_cons, List.length_nil, List.mem_cons, List.not_mem_nil, or_false, true_or, or_true, true_and, and_true, and_self, not_true_eq_false, not_false_eq_true, eq_self, ne_eq, Nat.zero_le, Nat.le_refl, Nat.reduceAdd, Nat.reduceSub, Nat.reduceEqDiff, Nat.reduceLeDiff, Int32.reduceLT, Int32.reduceLE, Int32.reduceAdd, Int32.reduceSub, Int32.reduceMul, Int32.reduceToNatClampNeg, Int32.reduceOfNat, Int32.reduceOfInt, Int64.reduceLT, Int64.reduceAdd, Int64.reduceSub, Int64.reduceMul, String.reduceEq, reduceCtorEq, room_c, room_s]
    refine kf0_319 (con2 _ 5 _ _ _ _ _ rfl (by decide)) ?_
    simp only [↓B0, ↓idx_c, ↓setN_c, ↓idxN_c, ↓reduceIte, B1, List.length_cons, List.length_nil, List.mem_cons, List.not_mem_nil, or_false, true_or, or_true, true_and, and_true, and_self, not_true_eq_false, not_false_eq_true, eq_self, ne_eq, Nat.zero_le, Nat.le_refl, Nat.reduceAdd, Nat.reduceSub, Nat.reduceEqDiff, Nat.reduceLeDiff, Int32.reduceLT, Int32.reduceLE, Int32.reduceAdd, Int32.reduceSub, Int32.reduceMul, Int32.reduceToNatClampNeg, Int32.reduceOfNat, Int32.reduceOfInt, Int64.reduceLT, Int64.reduceAdd, Int64.reduceSub, Int64.reduceMul, String.reduceEq, reduceCtorEq, room_c, room_s, sm, t2]
    refine r0 300 ?_
    simp only [↓S0, ↓B0, ↓idx_c, ↓setN_c, ↓idxN_c, ↓reduceIte, B1, List.length_cons, List.length_nil, List.mem_cons, List.not_mem_nil, or_false, true_or, or_true, true_and, and_true, and_self, not_true_eq_false, not_false_eq_true, eq_self, ne_eq, Nat.zero_le, Nat.le_refl, Nat.reduceAdd, Nat.reduceSub, Nat.reduceEqDiff, Nat.reduceLeDiff, Int32.reduceLT, Int32.reduceLE, Int32.reduceAdd, Int32.reduceSub, Int32.reduceMul, Int32.reduceToNatClampNeg, Int32.reduceOfNat, Int32.reduceOfInt, Int64.reduceLT, Int64.reduceAdd, Int64.reduceSub, Int64.reduceMul, String.reduceEq, reduceCtorEq, room_c, room_s]
    refine kf0_348 (con2 _ 6 _ _ _ _ _ rfl (by decide)) ?_
    simp only [↓B0, ↓idx_c, ↓setN_c, ↓idxN_c, ↓reduceIte, B1, List.length_cons, List.length_nil, List.mem_cons, List.not_mem_nil, or_false, true_or, or_true, true_and, and_true, and_self, not_true_eq_false, not_false_eq_true, eq_self, ne_eq, Nat.zero_le, Nat.le_refl, Nat.reduceAdd, Nat.reduceSub, Nat.reduceEqDiff, Nat.reduceLeDiff, Int32.reduceLT, Int32.reduceLE, Int32.reduceAdd, Int32.reduceSub, Int32.reduceMul, Int32.reduceToNatClampNeg, Int32.reduceOfNat, Int32.reduceOfInt, Int64.reduceLT, Int64.reduceAdd, Int64.reduceSub, Int64.reduceMul, String.reduceEq, reduceCtorEq, room_c, room_s, sm]
    refine r0 300 ?_
    simp only [↓S0, ↓B0, ↓idx_c, ↓setN_c, ↓idxN_c, ↓reduceIte, B1, List.length_cons, List.length_nil, List.mem_cons, List.not_mem_nil, or_false, true_or, or_true, true_and, and_true, and_self, not_true_eq_false, not_false_eq_true, eq_self, ne_eq, Nat.zero_le, Nat.le_refl, Nat.reduceAdd, Nat.reduceSub, Nat.reduceEqDiff, Nat.reduceLeDiff, Int32.reduceLT, Int32.reduceLE, Int32.reduceAdd, Int32.reduceSub, Int32.reduceMul, Int32.reduceToNatClampNeg, Int32.reduceOfNat, Int32.reduceOfInt, Int64.reduceLT, Int64.reduceAdd, Int64.reduceSub, Int64.reduceMul, String.reduceEq, reduceCtorEq, room_c, room_s]
    refine kf0_377 (con2 _ 7 _ _ _ _ _ rfl (by decide)) ?_
    simp only [↓B0, ↓idx_c, ↓setN_c, ↓idxN_c, ↓reduceIte, B1, List.length_cons, List.length_nil, List.mem_cons, List.not_mem_nil, or_false, true_or, or_true, true_and, and_true, and_self, not_true_eq_false, not_false_eq_true, eq_self, ne_eq, Nat.zero_le, Nat.le_refl, Nat.reduceAdd, Nat.reduceSub, Nat.reduceEqDiff, Nat.reduceLeDiff, Int32.reduceLT, Int32.reduceLE, Int32.reduceAdd, Int32.reduceSub, Int32.reduceMul, Int32.reduceToNatClampNeg, Int32.reduceOfNat, Int32.reduceOfInt, Int64.reduceLT, Int64.reduceAdd, Int64.reduceSub, Int64.reduceMul, String.reduceEq, reduceCtorEq, room_c, room_s, sm]
    refine r0 300 ?_
    simp only [↓S0, ↓B0, ↓idx_c, ↓setN_c, ↓idxN_c, ↓reduceIte, B1, List.length_cons, List.length_nil, List.mem_cons, List.not_mem_nil, or_false, true_or, or_true, true_and, and_true, and_self, not_true_eq_false, not_false_eq_true, eq_self, ne_eq, Nat.zero_le, Nat.le_refl, Nat.reduceAdd, Nat.reduceSub, Nat.reduceEqDiff, Nat.reduceLeDiff, Int32.reduceLT, Int32.reduceLE, Int32.reduceAdd, Int32.reduceSub, Int32.reduceMul, Int32.reduceToNatClampNeg, Int32.reduceOfNat, Int32.reduceOfInt, Int64.reduceLT, Int64.reduceAdd, Int64.reduceSub, Int64.reduceMul, String.reduceEq, reduceCtorEq, room_c, room_s]
    refine kf0_406 (con2 _ 8 _ _ _ _ _ rfl (by decide)) ?_
    simp only [↓B0, ↓idx_c, ↓setN_c, ↓idxN_c, ↓reduceIte, B1, List.length_cons, List.length_nil, List.mem_cons, List.not_mem_nil, or_false, true_or, or_true, true_and, and_true, and_self, not_true_eq_false, not_false_eq_true, eq_self, ne_eq, Nat.zero_le, Nat.le_refl, Nat.reduceAdd, Nat.reduceSub, Nat.reduceEqDiff, Nat.reduceLeDiff, Int32.reduceLT, Int32.reduceLE, Int32.reduceAdd, Int32.reduceSub, Int32.reduceMul, Int32.reduceToNatClampNeg, Int32.reduceOfNat, Int32.reduceOfInt, Int64.reduceLT, Int64.reduceAdd, Int64.reduceSub, Int64.reduceMul, String.reduceEq, reduceCtorEq, room_c, room_s, sm]
    refine r0 300 ?_
    simp only [↓S0, ↓B0, ↓idx_c, ↓setN_c, ↓idxN_c, ↓reduceIte, B1, List.length_cons, List.length_nil, List.mem_cons, List.not_mem_nil, or_false, true_or, or_true, true_and, and_true, and_self, not_true_eq_false, not_false_eq_true, eq_self, ne_eq, Nat.zero_le, Nat.le_refl, Nat.reduceAdd, Nat.reduceSub, Nat.reduceEqDiff, Nat.reduceLeDiff, Int32.reduceLT, Int32.reduceLE, Int32.reduceAdd, Int32.reduceSub, Int32.reduceMul, Int32.reduceToNatClampNeg, Int32.reduceOfNat, Int32.reduceOfInt, Int64.reduceLT, Int64.reduceAdd, Int64.reduceSub, Int64.reduceMul, String.reduceEq, reduceCtorEq, room_c, room_s]
    refine kf0_435 (con2 _ 9 _ _ _ _ _ rfl (by decide)) ?_
    simp only [↓B0, ↓idx_c, ↓setN_c, ↓idxN_c, ↓reduceIte, B1, List.length_cons, List.length_nil, List.mem_cons, List.not_mem_nil, or_false, true_or, or_true, true_and, and_true, and_self, not_true_eq_false, not_false_eq_true, eq_self, ne_eq, Nat.zero_le, Nat.le_refl, Nat.reduceAdd, Nat.reduceSub, Nat.reduceEqDiff, Nat.reduceLeDiff, Int32.reduceLT, Int32.reduceLE, Int32.reduceAdd, Int32.reduceSub, Int32.reduceMul, Int32.reduceToNatClampNeg, Int32.reduceOfNat, Int32.reduceOfInt, Int64.reduceLT, Int64.reduceAdd, Int64.reduceSub, Int64.reduceMul, String.reduceEq, reduceCtorEq, room_c, room_s, sm]
    refine r0 300 ?_
    simp only [↓S0, ↓B0, ↓idx_c, ↓setN_c, ↓idxN_c, ↓reduceIte, B1, List.length_cons, List.length_nil, List.mem_cons, List.not_mem_nil, or_false, true_or, or_true, true_and, and_true, and_self, not_true_eq_false, not_false_eq_true, eq_self, ne_eq, Nat.zero_le, Nat.le_refl, Nat.reduceAdd, Nat.reduceSub, Nat.reduceEqDiff, Nat.reduceLeDiff, Int32.reduceLT, Int32.reduceLE, Int32.reduceAdd, Int32.reduceSub, Int32.reduceMul, Int32.reduceToNatClampNeg, Int32.reduceOfNat, Int32.reduceOfInt, Int64.reduceLT, Int64.reduceAdd, Int64.reduceSub, Int64.reduceMul, String.reduceEq, reduceCtorEq, room_c, room_s]
  · obtain ⟨h0, h1, h2, h3, c1, c2, c3, c4, t0, t1, t2, t3⟩ := facts_4 i0 (by omega) (by omega)
    refine r0 300 ?_
    simp only [↓S0, ↓B0, ↓idx_c, ↓setN_c, ↓idxN_c, ↓reduceIte, B1, List.length_cons, List.length_nil, List.mem_cons, List.not_mem_nil, or_false, true_or, or_true, true_and, and_true, and_self, not_true_eq_false, not_false_eq_true, eq_self, ne_eq, Nat.zero_le, Nat.le_refl, Nat.reduceAdd, Nat.reduceSub, Nat.reduceEqDiff, Nat.reduceLeDiff, Int32.reduceLT, Int32.reduceLE, Int32.reduceAdd, Int32.reduceSub, Int32.reduceMul, Int32.reduceToNatClampNeg, Int32.reduceOfNat, Int32.reduceOfInt, Int64.reduceLT, Int64.reduceAdd, Int64.reduceSub, Int64.reduceMul, String.reduceEq, reduceCtorEq, room_c, room_s, hv]
    refine kf0_72 (con1_3_4 (nar .byte i2) i0 h0 h1 h2 h3) (r0 300 ?_)
    simp only [↓S0, ↓B0, ↓idx_c, ↓setN_c, ↓idxN_c, ↓reduceIte, B1, List.length_cons, List.length_nil, List.mem_cons, List.not_mem_nil, or_false, true_or, or_true, true_and, and_true, and_self, not_true_eq_false, not_false_eq_true, eq_self, ne_eq, Nat.zero_le, Nat.le_refl, Nat.reduceAdd, Nat.reduceSub, Nat.reduceEqDiff, Nat.reduceLeDiff, Int32.reduceLT, Int32.reduceLE, Int32.reduceAdd, Int32.reduceSub, Int32.reduceMul, Int32.reduceToNatClampNeg, Int32.reduceOfNat, Int32.reduceOfInt, Int64.reduceLT, Int64.reduceAdd, Int64.reduceSub, Int64.reduceMul, String.reduceEq, reduceCtorEq, room_c, room_s, c1, c2, c3, c4]
    refine kf0_179 (con2 _ 0 _ _ _ _ _ rfl (by decide)) ?_
    simp only [↓B0, ↓idx_c, ↓setN_c, ↓idxN_c, ↓reduceIte, B1, List.length_cons, List.length_nil, List.mem_cons, List.not_mem_nil, or_false, true_or, or_true, true_and, and_true, and_self, not_true_eq_false, not_false_eq_true, eq_self, ne_eq, Nat.zero_le, Nat.le_refl, Nat.reduceAdd, Nat.reduceSub, Nat.reduceEqDiff, Nat.reduceLeDiff, Int32.reduceLT, Int32.reduceLE, Int32.reduceAdd, Int32.reduceSub, Int32.reduceMul, Int32.reduceToNatClampNeg, Int32.reduceOfNat, Int32.reduceOfInt, Int64.reduceLT, Int64.reduceAdd, Int64.reduceSub, Int64.reduceMul, String.reduceEq, reduceCtorEq, room_c, room_s, sm]
    refine r0 300 ?_
    simp only [↓S0, ↓B0, ↓idx_c, ↓setN_c, ↓idxN_c, ↓reduceIte, B1, List.length_cons, List.length_nil, List.mem_cons, List.not_mem_nil, or_false, true_or, or_true, true_and, and_true, and_self, not_true_eq_false, not_false_eq_true, eq_self, ne_eq, Nat.zero_le, Nat.le_refl, Nat.reduceAdd, Nat.reduceSub, Nat.reduceEqDiff, Nat.reduceLeDiff, Int32.reduceLT, Int32.reduceLE, Int32.reduceAdd, Int32.reduceSub, Int32.reduceMul, Int32.reduceToNatClampNeg, Int32.reduceOfNat, Int32.reduceOfInt, Int64.reduceLT, Int64.reduceAdd, Int64.reduceSub, Int64.reduceMul, String.reduceEq, reduceCtorEq, room_c, room_s]
    refine kf0_207 (con2 _ 1 _ _ _ _ _ rfl (by decide)) ?_
    simp only [↓B0, ↓idx_c, ↓setN_c, ↓idxN_c, ↓reduceIte, B1, List.length_cons, List.length_nil, List.mem_cons, List.not_mem_nil, or_false, true_or, or_true, true_and, and_true, and_self, not_true_eq_false, not_false_eq_true, eq_self, ne_eq, Nat.zero_le, Nat.le_refl, Nat.reduceAdd, Nat.reduceSub, Nat.reduceEqDiff, Nat.reduceLeDiff, Int32.reduceLT, Int32.reduceLE, Int32.reduceAdd, Int32.reduceSub, Int32.reduceMul, Int32.reduceToNatClampNeg, Int32.reduceOfNat, Int32.reduceOfInt, Int64.reduceLT, Int64.reduceAdd, Int64.reduceSub, Int64.reduceMul, String.reduceEq, reduceCtorEq, room_c, room_s, sm]
    refine r0 300 ?_
    simp only [↓S0, ↓B0, ↓idx_c, ↓setN_c, ↓idxN_c, ↓reduceIte, B1, List.length_cons, List.length_nil, List.mem_cons, List.not_mem_nil, or_false, true_or, or_true, true_and, and_true, and_self, not_true_eq_false, not_false_eq_true, eq_self, ne_eq, Nat.zero_le, Nat.le_refl, Nat.reduceAdd, Nat.reduceSub, Nat.reduceEqDiff, Nat.reduceLeDiff, Int32.reduceLT, Int32.reduceLE, Int32.reduceAdd, Int32.reduceSub, Int32.reduceMul, Int32.reduceToNatClampNeg, Int32.reduceOfNat, Int32.reduceOfInt, Int64.reduceLT, Int64.reduceAdd, Int64.reduceSub, Int64.reduceMul, String.reduceEq, reduceCtorEq, room_c, room_s]
    refine kf0_235 (con2 _ 2 _ _ _ _ _ rfl (by decide)) ?_
    simp only [↓B0, ↓idx_c, ↓setN_c, ↓idxN_c, ↓reduceIte, B1, List.length_cons, List.length_nil, List.mem_cons, List.not_mem_nil, or_false, true_or, or_true, true_and, and_true, and_self, not_true_eq_false, not_false_eq_true, eq_self, ne_eq, Nat.zero_le, Nat.le_refl, Nat.reduceAdd, Nat.reduceSub, Nat.reduceEqDiff, Nat.reduceLeDiff, Int32.reduceLT, Int32.reduceLE, Int32.reduceAdd, Int32.reduceSub, Int32.reduceMul, Int32.reduceToNatClampNeg, Int32.reduceOfNat, Int32.reduceOfInt, Int64.reduceLT, Int64.reduceAdd, Int64.reduceSub, Int64.reduceMul, String.reduceEq, reduceCtorEq, room_c, room_s, sm]
    refine r0 300 ?_
    simp only [↓S0, ↓B0, ↓idx_c, ↓setN_c, ↓idxN_c, ↓reduceIte, B1, List.length_cons, List.length_nil, List.mem_cons, List.not_mem_nil, or_false, true_or, or_true, true_and, and_true, and_self, not_true_eq_false, not_false_eq_true, eq_self, ne_eq, Nat.zero_le, Nat.le_refl, Nat.reduceAdd, Nat.reduceSub, Nat.reduceEqDiff, Nat.reduceLeDiff, Int32.reduceLT, Int32.reduceLE, Int32.reduceAdd, Int32.reduceSub, Int32.reduceMul, Int32.reduceToNatClampNeg, Int32.reduceOfNat, Int32.reduceOfInt, Int64.reduceLT, Int64.reduceAdd, Int64.reduceSub, Int64.reduceMul, String.reduceEq, reduceCtorEq, room_c, room_s]
    refine kf0_263 (con2 _ 3 _ _ _ _ _ rfl (by decide)) ?_
    simp only [↓B0, ↓idx_c, ↓setN_c, ↓idxN_c, ↓reduceIte, B1, List.length_cons, List.length_nil, List.mem_cons, List.not_mem_nil, or_false, true_or, or_true, true_and, and_true, and_self, not_true_eq_false, not_false_eq_true, eq_self, ne_eq, Nat.zero_le, Nat.le_refl, Nat.reduceAdd, Nat.reduceSub, Nat.reduceEqDiff, Nat.reduceLeDiff, Int32.reduceLT, Int32.reduceLE, Int32.reduceAdd, Int32.reduceSub, Int32.reduceMul, Int32.reduceToNatClampNeg, Int32.reduceOfNat, Int32.reduceOfInt, Int64.reduceLT, Int64.reduceAdd, Int64.reduceSub, Int64.reduceMul, String.reduceEq, reduceCtorEq, room_c, room_s, sm, t0]
    refine r0 300 ?_
    simp only [↓S0, ↓B0, ↓idx_c, ↓setN_c, ↓idxN_c, ↓reduceIte, B1, List.length_cons, List.length_nil, List.mem_cons, List.not_mem_nil, or_false, true_or, or_true, true_and, and_true, and_self, not_true_eq_false, not_false_eq_true, eq_self, ne_eq, Nat.zero_le, Nat.le_refl, Nat.reduceAdd, Nat.reduceSub, Nat.reduceEqDiff, Nat.reduceLeDiff, Int32.reduceLT, Int32.reduceLE, Int32.reduceAdd, Int32.reduceSub, Int32.reduceMul, Int32.reduceToNatClampNeg, Int32.reduceOfNat, Int32.reduceOfInt, Int64.reduceLT, Int64.reduceAdd, Int64.reduceSub, Int64.reduceMul, String.reduceEq, reduceCtorEq, room_c, room_s]
    refine kf0_291 (con2 _ 4 _ _ _ _ _ rfl (by decide)) ?_
    simp only [↓B0, ↓idx_c, ↓setN_c, ↓idxN_c, ↓reduceIte, B1, List.length_cons, List.length_nil, List.mem_cons, List.not_mem_nil, or_false, true_or, or_true, true_and, and_true, and_self, not_true_eq_false, not_false_eq_true, eq_self, ne_eq, Nat.zero_le, Nat.le_refl, Nat.reduceAdd, Nat.reduceSub, Nat.reduceEqDiff, Nat.reduceLeDiff, Int32.reduceLT, Int32.reduceLE, Int32.reduceAdd, Int32.reduceSub, Int32.reduceMul, Int32.reduceToNatClampNeg, Int32.reduceOfNat, Int32.reduceOfInt, Int64.reduceLT, Int64.reduceAdd, Int64.reduceSub, Int64.reduceMul, String.reduceEq, reduceCtorEq, room_c, room_s, sm, t1]
    refine r0 300 ?_
    simp only [↓S0, ↓B0, ↓idx_c, ↓setN_c, ↓idxN_c, ↓reduceIte, B1, List.length_cons, List.length_nil, List.mem_cons, List.not_mem_nil, or_false, true_or, or_true, true_and, and_true, and_self, not_true_eq_false, not_false_eq_true, eq_self, ne_eq, Nat.zero_le, Nat.le_refl, Nat.reduceAdd, Nat.reduceSub, Nat.reduceEqDiff, Nat.reduceLeDiff, Int32.reduceLT, Int32.reduceLE, Int32.reduceAdd, Int32.reduceSub, Int32.reduceMul, Int32.reduceToNatClampNeg, Int32.reduceOfNat, Int32.reduceOfInt, Int64.reduceLT, Int64.reduceAdd, Int64.reduceSub, Int64.reduceMul, String.reduceEq, reduceCtorEq, room_c, room_s]
    refine kf0_319 (con2 _ 5 _ _ _ _ _ rfl (by decide)) ?_
    simp only [↓B0, ↓idx_c, ↓setN_c, ↓idxN_c, ↓reduceIte, B1, List.length_cons, List.length_nil, List.mem_cons, List.not_mem_nil, or_false, true_or, or_true, true_and, and_true, and_self, not_true_eq_false, not_false_eq_true, eq_self, ne_eq, Nat.zero_le, Nat.le_refl, Nat.reduceAdd, Nat.reduceSub, Nat.reduceEqDiff, Nat.reduceLeDiff, Int32.reduceLT, Int32.reduceLE, Int32.reduceAdd, Int32.reduceSub, Int32.reduceMul, Int32.reduceToNatClampNeg, Int32.reduceOfNat, Int32.reduceOfInt, Int64.reduceLT, Int64.reduceAdd, Int64.reduceSub, Int64.reduceMul, String.reduceEq, reduceCtorEq, room_c, room_s, sm, t2]
    refine r0 300 ?_
    simp only [↓S0, ↓B0, ↓idx_c, ↓setN_c, ↓idxN_c, ↓reduceIte, B1, List.length_cons, List.length_nil, List.mem_cons, List.not_mem_nil, or_false, true_or, or_true, true_and, and_true, and_self, not_true_eq_false, not_false_eq_true, eq_self, ne_eq, Nat.zero_le, Nat.le_refl, Nat.reduceAdd, Nat.reduceSub, Nat.reduceEqDiff, Nat.reduceLeDiff, Int32.reduceLT, Int32.reduceLE, Int32.reduceAdd, Int32.reduceSub, Int32.reduceMul, Int32.reduceToNatClampNeg, Int32.reduceOfNat, Int32.reduceOfInt, Int64.reduceLT, Int64.reduceAdd, Int64.reduceSub, Int64.reduceMul, String.reduceEq, reduceCtorEq, room_c, room_s]
    refine kf0_348 (con2 _ 6 _ _ _ _ _ rfl (by decide)) ?_
    simp only [↓B0, ↓idx_c, ↓setN_c, ↓idxN_c, ↓reduceIte, B1, List.length_cons, List.length_nil, List.mem_cons, List.not_mem_nil, or_false, true_or, or_true, true_and, and_true, and_self, not_true_eq_false, not_false_eq_true, eq_self, ne_eq, Nat.zero_le, Nat.le_refl, Nat.reduceAdd, Nat.reduceSub, Nat.reduceEqDiff, Nat.reduceLeDiff, Int32.reduceLT, Int32.reduceLE, Int32.reduceAdd, Int32.reduceSub, Int32.reduceMul, Int32.reduceToNatClampNeg, Int32.reduceOfNat, Int32.reduceOfInt, Int64.reduceLT, Int64.reduceAdd, Int64.reduceSub, Int64.reduceMul, String.reduceEq, reduceCtorEq, room_c, room_s, sm, t3]
    refine r0 300 ?_
    simp only [↓S0, ↓B0, ↓idx_c, ↓setN_c, ↓idxN_c, ↓reduceIte, B1, List.length_cons, List.length_nil, List.mem_cons, List.not_mem_nil, or_false, true_or, or_true, true_and, and_true, and_self, not_true_eq_false, not_false_eq_true, eq_self, ne_eq, Nat.zero_le, Nat.le_refl, Nat.reduceAdd, Nat.reduceSub, Nat.reduceEqDiff, Nat.reduceLeDiff, Int32.reduceLT, Int32.reduceLE, Int32.reduceAdd, Int32.reduceSub, Int32.reduceMul, Int32.reduceToNatClampNeg, Int32.reduceOfNat, Int32.reduceOfInt, Int64.reduceLT, Int64.reduceAdd, Int64.reduceSub, Int64.reduceMul, String.reduceEq, reduceCtorEq, room_c, room_s]
    refine kf0_377 (con2 _ 7 _ _ _ _ _ rfl (by decide)) ?_
    simp only [↓B0, ↓idx_c, ↓setN_c, ↓idxN_c, ↓reduceIte, B1, List.length_cons, List.length_nil, List.mem_cons, List.not_mem_nil, or_false, true_or, or_true, true_and, and_true, and_self, not_true_eq_false, not_false_eq_true, eq_self, ne_eq, Nat.zero_le, Nat.le_refl, Nat.reduceAdd, Nat.reduceSub, Nat.reduceEqDiff, Nat.reduceLeDiff, Int32.reduceLT, Int32.reduceLE, Int32.reduceAdd, Int32.reduceSub, Int32.reduceMul, Int32.reduceToNatClampNeg, Int32.reduceOfNat, Int32.reduceOfInt, Int64.reduceLT, Int64.reduceAdd, Int64.reduceSub, Int64.reduceMul, String.reduceEq, reduceCtorEq, room_c, room_s, sm]
    refine r0 300 ?_
    simp only [↓S0, ↓B0, ↓idx_c, ↓setN_c, ↓idxN_c, ↓reduceIte, B1, List.length_cons, List.length_nil, List.mem_cons, List.not_mem_nil, or_false, true_or, or_true, true_and, and_true, and_self, not_true_eq_false, not_false_eq_true, eq_self, ne_eq, Nat.zero_le, Nat.le_refl, Nat.reduceAdd, Nat.reduceSub, Nat.reduceEqDiff, Nat.reduceLeDiff, Int32.reduceLT, Int32.reduceLE, Int32.reduceAdd, Int32.reduceSub, Int32.reduceMul, Int32.reduceToNatClampNeg, Int32.reduceOfNat, Int32.reduceOfInt, Int64.reduceLT, Int64.reduceAdd, Int64.reduceSub, Int64.reduceMul, String.reduceEq, reduceCtorEq, room_c, room_s]
    refine kf0_406 (con2 _ 8 _ _ _ _ _ rfl (by decide)) ?_
    simp only [↓B0, ↓idx_c, ↓setN_c, ↓idxN_c, ↓reduceIte, B1, List.length_cons, List.length_nil, List.mem_cons, List.not_mem_nil, or_false, true_or, or_true, true_and, and_true, and_self, not_true_eq_false, not_false_eq_true, eq_self, ne_eq, Nat.zero_le, Nat.le_refl, Nat.reduceAdd, Nat.reduceSub, Nat.reduceEqDiff, Nat.reduceLeDiff, Int32.reduceLT, Int32.reduceLE, Int32.reduceAdd, Int32.reduceSub, Int32.reduceMul, Int32.reduceToNatClampNeg, Int32.reduceOfNat, Int32.reduceOfInt, Int64.reduceLT, Int64.reduceAdd, Int64.reduceSub, Int64.reduceMul, String.reduceEq, reduceCtorEq, room_c, room_s, sm]
    refine r0 300 ?_
    simp only [↓S0, ↓B0, ↓idx_c, ↓setN_c, ↓idxN_c, ↓reduceIte, B1, List.length_cons, List.length_nil, List.mem_cons, List.not_mem_nil, or_false, true_or, or_true, true_and, and_true, and_self, not_true_eq_false, not_false_eq_true, eq_self, ne_eq, Nat.zero_le, Nat.le_refl, Nat.reduceAdd, Nat.reduceSub, Nat.reduceEqDiff, Nat.reduceLeDiff, Int32.reduceLT, Int32.reduceLE, Int32.reduceAdd, Int32.reduceSub, Int32.reduceMul, Int32.reduceToNatClampNeg, Int32.reduceOfNat, Int32.reduceOfInt, Int64.reduceLT, Int64.reduceAdd, Int64.reduceSub, Int64.reduceMul, String.reduceEq, reduceCtorEq, room_c, room_s]
    refine kf0_435 (con2 _ 9 _ _ _ _ _ rfl (by decide)) ?_
    simp only [↓B0, ↓idx_c, ↓setN_c, ↓idxN_c, ↓reduceIte, B1, List.length_cons, List.length_nil, List.mem_cons, List.not_mem_nil, or_false, true_or, or_true, true_and, and_true, and_self, not_true_eq_false, not_false_eq_true, eq_self, ne_eq, Nat.zero_le, Nat.le_refl, Nat.reduceAdd, Nat.reduceSub, Nat.reduceEqDiff, Nat.reduceLeDiff, Int32.reduceLT, Int32.reduceLE, Int32.reduceAdd, Int32.reduceSub, Int32.reduceMul, Int32.reduceToNatClampNeg, Int32.reduceOfNat, Int32.reduceOfInt, Int64.reduceLT, Int64.reduceAdd, Int64.reduceSub, Int64.reduceMul, String.reduceEq, reduceCtorEq, room_c, room_s, sm]
    refine r0 300 ?_
    simp only [↓S0, ↓B0, ↓idx_c, ↓setN_c, ↓idxN_c, ↓reduceIte, B1, List.length_cons, List.length_nil, List.mem_cons, List.not_mem_nil, or_false, true_or, or_true, true_and, and_true, and_self, not_true_eq_false, not_false_eq_true, eq_self, ne_eq, Nat.zero_le, Nat.le_refl, Nat.reduceAdd, Nat.reduceSub, Nat.reduceEqDiff, Nat.reduceLeDiff, Int32.reduceLT, Int32.reduceLE, Int32.reduceAdd, Int32.reduceSub, Int32.reduceMul, Int32.reduceToNatClampNeg, Int32.reduceOfNat, Int32.reduceOfInt, Int64.reduceLT, Int64.reduceAdd, Int64.reduceSub, Int64.reduceMul, String.reduceEq, reduceCtorEq, room_c, room_s]
  · obtain ⟨h0, h1, h2, h3, h4, c1, c2, c3, c4, t0, t1, t2, t3, t4⟩ := facts_5 i0 (by omega) (by omega)
    refine r0 300 ?_
    simp only [↓S0, ↓B0, ↓idx_c, ↓setN_c, ↓idxN_c, ↓reduceIte, B1, List.length_cons, List.length_nil, List.mem_cons, List.not_mem_nil, or_false, true_or, or_true, true_and, and_true, and_self, not_true_eq_false, not_false_eq_true, eq_self, ne_eq, Nat.zero_le, Nat.le_refl, Nat.reduceAdd, Nat.reduceSub, Nat.reduceEqDiff, Nat.reduceLeDiff, Int32.reduceLT, Int32.reduceLE, Int32.reduceAdd, Int32.reduceSub, Int32.reduceMul, Int32.reduceToNatClampNeg, Int32.reduceOfNat, Int32.reduceOfInt, Int64.reduceLT, Int64.reduceAdd, Int64.reduceSub, Int64.reduceMul, String.reduceEq, reduceCtorEq, room_c, room_s, hv]
    refine kf0_72 (con1_3_5 (nar .byte i2) i0 h0 h1 h2 h3 h4) (r0 300 ?_)
    simp only [↓S0, ↓B0, ↓idx_c, ↓setN_c, ↓idxN_c, ↓reduceIte, B1, List.length_cons, List.length_nil, List.mem_cons, List.not_mem_nil, or_false, true_or, or_true, true_and, and_true, and_self, not_true_eq_false, not_false_eq_true, eq_self, ne_eq, Nat.zero_le, Nat.le_refl, Nat.reduceAdd, Nat.reduceSub, Nat.reduceEqDiff, Nat.reduceLeDiff, Int32.reduceLT, Int32.reduceLE, Int32.reduceAdd, Int32.reduceSub, Int32.reduceMul, Int32.reduceToNatClampNeg, Int32.reduceOfNat, Int32.reduceOfInt, Int64.reduceLT, Int64.reduceAdd, Int64.reduceSub, Int64.reduceMul, String.reduceEq, reduceCtorEq, room_c, room_s, c1, c2, c3, c4]
    refine kf0_179 (con2 _ 0 _ _ _ _ _ rfl (by decide)) ?_
    simp only [↓B0, ↓idx_c, ↓setN_c, ↓idxN_c, ↓reduceIte, B1, List.length_cons, List.length_nil, List.mem_cons, List.not_mem_nil, or_false, true_or, or_true, true_and, and_true, and_self, not_true_eq_false, not_false_eq_true, eq_self, ne_eq, Nat.zero_le, Nat.le_refl, Nat.reduceAdd, Nat.reduceSub, Nat.reduceEqDiff, Nat.reduceLeDiff, Int32.reduceLT, Int32.reduceLE, Int32.reduceAdd, Int32.reduceSub, Int32.reduceMul, Int32.reduceToNatClampNeg, Int32.reduceOfNat, Int32.reduceOfInt, Int64.reduceLT, Int64.reduceAdd, Int64.reduceSub, Int64.reduceMul, String.reduceEq, reduceCtorEq, room_c, room_s, sm]
    refine r0 300 ?_
    simp only [↓S0, ↓B0, ↓idx_c, ↓setN_c, ↓idxN_c, ↓reduceIte, B1, List.length_cons, List.length_nil, List.mem_cons, List.not_mem_nil, or_false, true_or, or_true, true_and, and_true, and_self, not_true_eq_false, not_false_eq_true, eq_self, ne_eq, Nat.zero_le, Nat.le_refl, Nat.reduceAdd, Nat.reduceSub, Nat.reduceEqDiff, Nat.reduceLeDiff, Int32.reduceLT, Int32.reduceLE, Int32.reduceAdd, Int32.reduceSub, Int32.reduceMul, Int32.reduceToNatClampNeg, Int32.reduceOfNat, Int32.reduceOfInt, Int64.reduceLT, Int64.reduceAdd, Int64.reduceSub, Int64.reduceMul, String.reduceEq, reduceCtorEq, room_c, room_s]
    refine kf0_207 (con2 _ 1 _ _ _ _ _ rfl (by decide)) ?_
    simp only [↓B0, ↓idx_c, ↓setN_c, ↓idxN_c, ↓reduceIte, B1, List.length_cons, List.length_nil, List.mem_cons, List.not_mem_nil, or_false, true_or, or_true, true_and, and_true, and_self, not_true_eq_false, not_false_eq_true, eq_self, ne_eq, Nat.zero_le, Nat.le_refl, Nat.reduceAdd, Nat.reduceSub, Nat.reduceEqDiff, Nat.reduceLeDiff, Int32.reduceLT, Int32.reduceLE, Int32.reduceAdd, Int32.reduceSub, Int32.reduceMul, Int32.reduceToNatClampNeg, Int32.reduceOfNat, Int32.reduceOfInt, Int64.reduceLT, Int64.reduceAdd, Int64.reduceSub, Int64.reduceMul, String.reduceEq, reduceCtorEq, room_c, room_s, sm]
    refine r0 300 ?_
    simp only [↓S0, ↓B0, ↓idx_c, ↓setN_c, ↓idxN_c, ↓reduceIte, B1, List.length_cons, List.length_nil, List.mem_cons, List.not_mem_nil, or_false, true_or, or_true, true_and, and_true, and_self, not_true_eq_false, not_false_eq_true, eq_self, ne_eq, Nat.zero_le, Nat.le_refl, Nat.reduceAdd, Nat.reduceSub, Nat.reduceEqDiff, Nat.reduceLeDiff, Int32.reduceLT, Int32.reduceLE, Int32.reduceAdd, Int32.reduceSub, Int32.reduceMul, Int32.reduceToNatClampNeg, Int32.reduceOfNat, Int32.reduceOfInt, Int64.reduceLT, Int64.reduceAdd, Int64.reduceSub, Int64.reduceMul, String.reduceEq, reduceCtorEq, room_c, room_s]
    refine kf0_235 (con2 _ 2 _ _ _ _ _ rfl (by decide)) ?_
    simp only [↓B0, ↓idx_c, ↓setN_c, ↓idxN_c, ↓reduceIte, B1, List.length_cons, List.length_nil, List.mem_cons, List.not_mem_nil, or_false, true_or, or_true, true_and, and_true, and_self, not_true_eq_false, not_false_eq_true, eq_self, ne_eq, Nat.zero_le, Nat.le_refl, Nat.reduceAdd, Nat.reduceSub, Nat.reduceEqDiff, Nat.reduceLeDiff, Int32.reduceLT, Int32.reduceLE, Int32.reduceAdd, Int32.reduceSub, Int32.reduceMul, Int32.reduceToNatClampNeg, Int32.reduceOfNat, Int32.reduceOfInt, Int64.reduceLT, Int64.reduceAdd, Int64.reduceSub, Int64.reduceMul, String.reduceEq, reduceCtorEq, room_c, room_s, sm]
    refine r0 300 ?_
    simp only [↓S0, ↓B0, ↓idx_c, ↓setN_c, ↓idxN_c, ↓reduceIte, B1, List.length_cons, List.length_nil, List.mem_cons, List.not_mem_nil, or_false, true_or, or_true, true_and, and_true, and_self, not_true_eq_false, not_false_eq_true, eq_self, ne_eq, Nat.zero_le, Nat.le_refl, Nat.reduceAdd, Nat.reduceSub, Nat.reduceEqDiff, Nat.reduceLeDiff, Int32.reduceLT, Int32.reduceLE, Int32.reduceAdd, Int32.reduceSub, Int32.reduceMul, Int32.reduceToNatClampNeg, Int32.reduceOfNat, Int32.reduceOfInt, Int64.reduceLT, Int64.reduceAdd, Int64.reduceSub, Int64.reduceMul, String.reduceEq, reduceCtorEq, room_c, room_s]
    refine kf0_263 (con2 _ 3 _ _ _ _ _ rfl (by decide)) ?_
    simp only [↓B0, ↓idx_c, ↓setN_c, ↓idxN_c, ↓reduceIte, B1, List.length_cons, List.length_nil, List.mem_cons, List.not_mem_nil, or_false, true_or, or_true, true_and, and_true, and_self, not_true_eq_false, not_false_eq_true, eq_self, ne_eq, Nat.zero_le, Nat.le_refl, Nat.reduceAdd, Nat.reduceSub, Nat.reduceEqDiff, Nat.reduceLeDiff, Int32.reduceLT, Int32.reduceLE, Int32.reduceAdd, Int32.reduceSub, Int32.reduceMul, Int32.reduceToNatClampNeg, Int32.reduceOfNat, Int32.reduceOfInt, Int64.reduceLT, Int64.reduceAdd, Int64.reduceSub, Int64.reduceMul, String.reduceEq, reduceCtorEq, room_c, room_s, sm, t0]
    refine r0 300 ?_
    simp only [↓S0, ↓B0, ↓idx_c, ↓setN_c, ↓idxN_c, ↓reduceIte, B1, List.length_cons, List.length_nil, List.mem_cons, List.not_mem_nil, or_false, true_or, or_true, true_and, and_true, and_self, not_true_eq_false, not_false_eq_true, eq_self, ne_eq, Nat.zero_le, Nat.le_refl, Nat.reduceAdd, Nat.reduceSub, Nat.reduceEqDiff, Nat.reduceLeDiff, Int32.reduceLT, Int32.reduceLE, Int32.reduceAdd, Int32.reduceSub, Int32.reduceMul, Int32.reduceToNatClampNeg, Int32.reduceOfNat, Int32.reduceOfInt, Int64.reduceLT, Int64.reduceAdd, Int64.reduceSub, Int64.reduceMul, String.reduceEq, reduceCtorEq, room_c, room_s]
    refine kf0_291 (con2 _ 4 _ _ _ _ _ rfl (by decide)) ?_
    simp only [↓B0, ↓idx_c, ↓setN_c, ↓idxN_c, ↓reduceIte, B1, List.length_cons, List.length_nil, List.mem_cons, List.not_mem_nil, or_false, true_or, or_true, true_and, and_true, and_self, not_true_eq_false, not_false_eq_true, eq_self, ne_eq, Nat.zero_le, Nat.le_refl, Nat.reduceAdd, Nat.reduceSub, Nat.reduceEqDiff, Nat.reduceLeDiff, Int32.reduceLT, Int32.reduceLE, Int32.reduceAdd, Int32.reduceSub, Int32.reduceMul, Int32.reduceToNatClampNeg, Int32.reduceOfNat, Int32.reduceOfInt, Int64.reduceLT, Int64.reduceAdd, Int64.reduceSub, Int64.reduceMul, String.reduceEq, reduceCtorEq, room_c, room_s, sm, t1]
    refine r0 300 ?_
    simp only [↓S0, ↓B0, ↓idx_c, ↓setN_c, ↓idxN_c, ↓reduceIte, B1, List.length_cons, List.length_nil, List.mem_cons, List.not_mem_nil, or_false, true_or, or_true, true_and, and_true, and_self, not_true_eq_false, not_false_eq_true, eq_self, ne_eq, Nat.zero_le, Nat.le_refl, Nat.reduceAdd, Nat.reduceSub, Nat.reduceEqDiff, Nat.reduceLeDiff, Int32.reduceLT, Int32.reduceLE, Int32.reduceAdd, Int32.reduceSub, Int32.reduceMul, Int32.reduceToNatClampNeg, Int32.reduceOfNat, Int32.reduceOfInt, Int64.reduceLT, Int64.reduceAdd, Int64.reduceSub, Int64.reduceMul, String.reduceEq, reduceCtorEq, room_c, room_s]
    refine kf0_319 (con2 _ 5 _ _ _ _ _ rfl (by decide)) ?_
    simp only [↓B0, ↓idx_c, ↓setN_c, ↓idxN_c, ↓reduceIte, B1, List.length_cons, List.length_nil, List.mem_cons, List.not_mem_nil, or_false, true_or, or_true, true_and, and_true, and_self, not_true_eq_false, not_false_eq_true, eq_self, ne_eq, Nat.zero_le, Nat.le_refl, Nat.reduceAdd, Nat.reduceSub, Nat.reduceEqDiff, Nat.reduceLeDiff, Int32.reduceLT, Int32.reduceLE, Int32.reduceAdd, Int32.reduceSub, Int32.reduceMul, Int32.reduceToNatClampNeg, Int32.reduceOfNat, Int32.reduceOfInt, Int64.reduceLT, Int64.reduceAdd, Int64.reduceSub, Int64.reduceMul, String.reduceEq, reduceCtorEq, room_c, room_s, sm, t2]
    refine r0 300 ?_
    simp only [↓S0, ↓B0, ↓idx_c, ↓setN_c, ↓idxN_c, ↓reduceIte, B1, List.length_cons, List.length_nil, List.mem_cons, List.not_mem_nil, or_false, true_or, or_true, true_and, and_true, and_self, not_true_eq_false, not_false_eq_true, eq_self, ne_eq, Nat.zero_le, Nat.le_refl, Nat.reduceAdd, Nat.reduceSub, Nat.reduceEqDiff, Nat.reduceLeDiff, Int32.reduceLT, Int32.reduceLE, Int32.reduceAdd, Int32.reduceSub, Int32.reduceMul, Int32.reduceToNatClampNeg, Int32.reduceOfNat, Int32.reduceOfInt, Int64.reduceLT, Int64.reduceAdd, Int64.reduceSub, Int64.reduceMul, String.reduceEq, reduceCtorEq, room_c, room_s]
    refine kf0_348 (con2 _ 6 _ _ _ _ _ rfl (by decide)) ?_
    simp only [↓B0, ↓idx_c, ↓setN_c, ↓idxN_c, ↓reduceIte, B1, List.length_cons, List.length_nil, List.mem_cons, List.not_mem_nil, or_false, true_or, or_true, true_and, and_true, and_self, not_true_eq_false, not_false_eq_true, eq_self, ne_eq, Nat.zero_le, Nat.le_refl, Nat.reduceAdd, Nat.reduceSub, Nat.reduceEqDiff, Nat.reduceLeDiff, Int32.reduceLT, Int32.reduceLE, Int32.reduceAdd, Int32.reduceSub, Int32.reduceMul, Int32.reduceToNatClampNeg, Int32.reduceOfNat, Int32.reduceOfInt, Int64.reduceLT, Int64.reduceAdd, Int64.reduceSub, Int64.reduceMul, String.reduceEq, reduceCtorEq, room_c, room_s, sm, t3]
    refine r0 300 ?_
    simp only [↓S0, ↓B0, ↓idx_c, ↓setN_c, ↓idxN_c, ↓reduceIte, B1, List.length_cons, List.length_nil, List.mem_cons, List.not_mem_nil, or_false, true_or, or_true, true_and, and_true, and_self, not_true_eq_false, not_false_eq_true, eq_self, ne_eq, Nat.zero_le, Nat.le_refl, Nat.reduceAdd, Nat.reduceSub, Nat.reduceEqDiff, Nat.reduceLeDiff, Int32.reduceLT, Int32.reduceLE, Int32.reduceAdd, Int32.reduceSub, Int32.reduceMul, Int32.reduceToNatClampNeg, Int32.reduceOfNat, Int32.reduceOfInt, Int64.reduceLT, Int64.reduceAdd, Int64.reduceSub, Int64.reduceMul, String.reduceEq, reduceCtorEq, room_c, room_s]
    refine kf0_377 (con2 _ 7 _ _ _ _ _ rfl (by decide)) ?_
    simp only [↓B0, ↓idx_c, ↓setN_c, ↓idxN_c, ↓reduceIte, B1, List.length_cons, List.length_nil, List.mem_cons, List.not_mem_nil, or_false, true_or, or_true, true_and, and_true, and_self, not_true_eq_false, not_false_eq_true, eq_self, ne_eq, Nat.zero_le, Nat.le_refl, Nat.reduceAdd, Nat.reduceSub, Nat.reduceEqDiff, Nat.reduceLeDiff, Int32.reduceLT, Int32.reduceLE, Int32.reduceAdd, Int32.reduceSub, Int32.reduceMul, Int32.reduceToNatClampNeg, Int32.reduceOfNat, Int32.reduceOfInt, Int64.reduceLT, Int64.reduceAdd, Int64.reduceSub, Int64.reduceMul, String.reduceEq, reduceCtorEq, room_c, room_s, sm, t4]
    refine r0 300 ?_
    simp only [↓S0, ↓B0, ↓idx_c, ↓setN_c, ↓idxN_c, ↓reduceIte, B1, List.length_cons, List.length_nil, List.mem_cons, List.not_mem_nil, or_false, true_or, or_true, true_and, and_true, and_self, not_true_eq_false, not_false_eq_true, eq_self, ne_eq, Nat.zero_le, Nat.le_refl, Nat.reduceAdd, Nat.reduceSub, Nat.reduceEqDiff, Nat.reduceLeDiff, Int32.reduceLT, Int32.reduceLE, Int32.reduceAdd, Int32.reduceSub, Int32.reduceMul, Int32.reduceToNatClampNeg, Int32.reduceOfNat, Int32.reduceOfInt, Int64.reduceLT, Int64.reduceAdd, Int64.reduceSub, Int64.reduceMul, String.reduceEq, reduceCtorEq, room_c, room_s]
    refine kf0_406 (con2 _ 8 _ _ _ _ _ rfl (by decide)) ?_
    simp only [↓B0, ↓idx_c, ↓setN_c, ↓idxN_c, ↓reduceIte, B1, List.length_cons, List.length_nil, List.mem_cons, List.not_mem_nil, or_false, true_or, or_true, true_and, and_true, and_self, not_true_eq_false, not_false_eq_true, eq_self, ne_eq, Nat.zero_le, Nat.le_refl, Nat.reduceAdd, Nat.reduceSub, Nat.reduceEqDiff, Nat.reduceLeDiff, Int32.reduceLT, Int32.reduceLE, Int32.reduceAdd, Int32.reduceSub, Int32.reduceMul, Int32.reduceToNatClampNeg, Int32.reduceOfNat, Int32.reduceOfInt, Int64.reduceLT, Int64.reduceAdd, Int64.reduceSub, Int64.reduceMul, String.reduceEq, reduceCtorEq, room_c, room_s, sm]
    refine r0 300 ?_
    simp only [↓S0, ↓B0, ↓idx_c, ↓setN_c, ↓idxN_c, ↓reduceIte, B1, List.length_cons, List.length_nil, List.mem_cons, List.not_mem_nil, or_false, true_or, or_true, true_and, and_true, and_self, not_true_eq_false, not_false_eq_true, eq_self, ne_eq, Nat.zero_le, Nat.le_refl, Nat.reduceAdd, Nat.reduceSub, Nat.reduceEqDiff, Nat.reduceLeDiff, Int32.reduceLT, Int32.reduceLE, Int32.reduceAdd, Int32.reduceSub, Int32.reduceMul, Int32.reduceToNatClampNeg, Int32.reduceOfNat, Int32.reduceOfInt, Int64.reduceLT, Int64.reduceAdd, Int64.reduceSub, Int64.reduceMul, String.reduceEq, reduceCtorEq, room_c, room_s]
    refine kf0_435 (con2 _ 9 _ _ _ _ _ rfl (by decide)) ?_
    simp only [↓B0, ↓idx_c, ↓setN_c, ↓idxN_c, ↓reduceIte, B1, List.length_cons, List.length_nil, List.mem_cons, List.not_mem_nil, or_false, true_or, or_true, true_and, and_true, and_self, not_true_eq_false, not_false_eq_true, eq_self, ne_eq, Nat.zero_le, Nat.le_refl, Nat.reduceAdd, Nat.reduceSub, Nat.reduceEqDiff, Nat.reduceLeDiff, Int32.reduceLT, Int32.reduceLE, Int32.reduceAdd, Int32.reduceSub, Int32.reduceMul, Int32.reduceToNatClampNeg, Int32.reduceOfNat, Int32.reduceOfInt, Int64.reduceLT, Int64.reduceAdd, Int64.reduceSub, Int64.reduceMul, String.reduceEq, reduceCtorEq, room_c, room_s, sm]
    refine r0 300 ?_
    simp only [↓S0, ↓B0, ↓idx_c, ↓setN_c, ↓idxN_c, ↓reduceIte, B1, List.length_cons, List.length_nil, List.mem_cons, List.not_mem_nil, or_false, true_or, or_true, true_and, and_true, and_self, not_true_eq_false, not_false_eq_true, eq_self, ne_eq, Nat.zero_le, Nat.le_refl, Nat.reduceAdd, Nat.reduceSub, Nat.reduceEqDiff, Nat.reduceLeDiff, Int32.reduceLT, Int32.reduceLE, Int32.reduceAdd, Int32.reduceSub, Int32.reduceMul, Int32.reduceToNatClampNeg, Int32.reduceOfNat, Int32.reduceOfInt, Int64.reduceLT, Int64.reduceAdd, Int64.reduceSub, Int64.reduceMul, String.reduceEq, reduceCtorEq, room_c, room_s]
theorem comes_1 {Post : Tables → Env → Array Value → State → Outcome → State → Prop} (hpost : ∀ tb e args s v u, (limb_1_1.after args s (.returned v) u = true ∧ limb_1_2.after args s (.returned v) u = true ∧ True) → FrameEnd s (.returned v) u (Jvm.fieldLocs frame_1_writes args s ++ Jvm.arrayLocs frame_1_arrays args s ++ Jvm.staticLocs frame_1_statics s) 16 128 → Post tb e args s (.returned v) u) :
    ArmFor flags0 classFile x code maxLocals ret World_1 tables_1 room_1 Calls_1 rest_1 Pre_1 Post := by
  intro l hfl _ _ p e ha hc hk s m args below hf hA hF happ hP
  obtain ⟨hcalls, hrest, hpre⟩ := hP
  obtain ⟨-, -, -, hnamed, -, -, -, hat⟩ := (Spec.applies_iff hf).mp happ
  obtain ⟨hg, hn⟩ := and_e (Cond.before_iff.mp (show (Jvm.Cond.and given_1 narrow_1).before args s = true from hpre))
  obtain ⟨hcount, g0⟩ := and_e hg
  obtain ⟨q0, g1⟩ := and_e g0
  obtain ⟨q1, g2⟩ := and_e g1
  obtain ⟨w0, w1, w2, rfl⟩ : ∃ w0 w1 w2 : Value, args = #[w0, w1, w2] := by
    have hs : args.size = 3 := by simpa [Cond.value, given_1] using hcount
    obtain ⟨L⟩ := args
    match L, hs with
    | [w0, w1, w2], _ => exact ⟨w0, w1, w2, rfl⟩
  have hw := fun d (hd : d ∈ tables_1) => atoms_spec (ws := Jvm.Cond.code x code maxLocals ret :: tables_1) hat d (List.mem_cons_of_mem _ hd)
  obtain ⟨i0, ei0⟩ := is_v q0
  obtain rfl : w0 = (.int i0) := Option.some.inj ei0
  obtain ⟨i1, ei1⟩ := is_v q1
  obtain rfl : w1 = (.int i1) := Option.some.inj ei1
  obtain ⟨i2, ei2⟩ := is_v g2
  obtain rfl : w2 = (.int i2) := Option.some.inj ei2
  obtain ⟨n, o, h1, h2, h3, v, L, rfl, ⟨N, H', -, hv⟩, hq⟩ := G.met (ws := tables_1) (y := x) (by first | decide +kernel | exact plainFor_of_name (by simp [x, plainName, overriddenIn])) (fun m => ef0 m i0 i1 i2) (show G code x.cls x.name maxLocals ret room_1 tables_1 l s s.heap 16 128 _ 0 _ [] [] 0 0 from law l s s.heap i0 i1 i2) _ s.heap hw ⟨rfl, fun i c hc => by cases hc⟩ p e ha hc hk s m _ below hf ((Spec.applies_iff_loose hf).mp happ).1 ⟨rfl, State.Warmed39.refl s, rfl⟩ trivial
  cases hv
  refine ⟨n, _, h1, h2, h3, hpost _ _ _ _ _ _ ⟨Cond.after_iff.mpr rfl, Cond.after_iff.mpr (eq_i res_at (Term.int_eval (1)) rfl), trivial⟩ ⟨hq.1, hq.2.1, hq.2.2.sift fun y hy => Or.inr (N y hy)⟩⟩
theorem main_1_1 : Claimed_1_1 := comes_1 fun _ _ _ _ _ _ h hF => ⟨h.1, hF⟩
theorem main_1_2 : Claimed_1_2 := comes_1 fun _ _ _ _ _ _ h hF => ⟨h.2.1, hF⟩
end Jvm.Pilot.@@N@@
namespace Jvm.Pilot.@@N@@
open Jvm Jvm.ClassFile Sem Op Lib Jvm.Free Jvm.Stand Jvm.Pilot.@@N@@.Jvm.D
/-! MADE BY PROGRAM (witnessworld.py) out of the Statement's table words and the real class files: 9 classes; the members and pool entries that the words name. The judged class is class 1, her method 1. -/
namespace start1
open Jvm.ClassFile
def u (s : String) : CpInfo := .utf8 (stringToUtf16 s)
/-- a pool by its gaps: so many unusable entries, then the entry; so many at the end -/
def gap : Nat → List CpInfo → List CpInfo
  | 0, r => r
  | n + 1, r => .unusable :: gap n r
def poolList (es : List (Nat × CpInfo)) (last : Nat) : List CpInfo := es.foldr (fun e r => gap e.1 (e.2 :: r)) (gap last [])
def pool (es : List (Nat × CpInfo)) (last : Nat) : Array CpInfo := ⟨poolList es last⟩
def fileOf (pool : Array CpInfo) (this : Nat) (attrs : Array Attribute := #[]) (ms : Array MethodInfo := #[]) (fl : Nat := 33) (sup : Nat := 0) (ifs : Array Nat := #[]) (fds : Array FieldInfo := #[]) : ClassFile where
  minorVersion := 0
  majorVersion := 65
  constantPool := pool
  accessFlags := fl
  thisClass := this
  superClass := sup
  interfaces := ifs
  fields := fds
  methods := ms
  attributes := attrs
def plain (name : String) (sup : Option ClassId) : Class where
  name := name
  kind := .ordinary
  loader := none
  accessFlags := 33
  super := sup
  interfaces := #[]
  cf := none
  fields := #[]
  methods := #[]
  instanceTypes := #[]
  staticTypes := #[]
  resolved := #[]
  callSites := []
  init := .initialized
  statics := none
  mirror := none

def pool0 : Array CpInfo := pool [(5, u "<init>"), (0, u "()V"), (1, .class_ 10), (1, u "java/lang/Object")] 113

def k0m0 : Method := { name := "<init>", desc := "()V", sig := { parameters := [], returnType := none }, accessFlags := 1, code := none }
/-- java/lang/Object -/
def k0 : Class := { plain "java/lang/Object" none with
  accessFlags := 33
  interfaces := #[]
  cf := some (fileOf pool0 8 #[] #[{ accessFlags := 1, nameIndex := 5, descriptorIndex := 6, attributes := #[] }] 33 0 #[] #[])
  fields := #[]
  methods := #[k0m0]
  instanceTypes := #[]
  staticTypes := #[]
  resolved := Array.replicate 124 none
  statics := none }

def pool1 : Array CpInfo := pool [(2, .class_ 4), (1, u "java/lang/Object"), (0, u "<init>"), (0, u "()V"), (0, .methodref 8 9), (0, .class_ 10), (0, .nameAndType 11 12), (0, u "com/example/twinsift/twinsift/cover/Varint"), (0, u "write"), (0, u "([BII)I"), (0, .long 4294967295), (1, .long 128), (1, .long 16384), (1, .long 2097152), (1, .long 268435456), (1, .methodref 24 25), (0, .class_ 26), (0, .nameAndType 27 28), (0, u "com/example/twinsift/twinsift/cover/VarintWritePinLaw"), (0, u "same"), (0, u "([BIIIJB)Z"), (0, .long 127), (3, u "law"), (0, u "(III)Z")] 5

def k1m0 : Method := { name := "<init>", desc := "()V", sig := { parameters := [], returnType := none }, accessFlags := 1, code := none }
def k1c1 : Code := { maxStack := 7, maxLocals := 11, code := code, exceptionTable := #[], attributes := #[] }
def k1m1 : Method := { name := "law", desc := "(III)Z", sig := { parameters := [.int, .int, .int], returnType := some .boolean }, accessFlags := 9, code := some k1c1 }
def k1c2 : Code := { maxStack := 4, maxLocals := 10, code := method_3_code, exceptionTable := #[], attributes := #[] }
def k1m2 : Method := { name := "same", desc := "([BIIIJB)Z", sig := { parameters := [(.array .byte), .int, .int, .int, .long, .byte], returnType := some .boolean }, accessFlags := 10, code := some k1c2 }
/-- com/example/twinsift/twinsift/cover/VarintWritePinLaw -/
def k1 : Class := { plain "com/example/twinsift/twinsift/cover/VarintWritePinLaw" (some 0) with
  accessFlags := 49
  interfaces := #[]
  cf := some (fileOf pool1 24 #[] #[{ accessFlags := 1, nameIndex := 5, descriptorIndex := 6, attributes := #[] }, { accessFlags := 9, nameIndex := 33, descriptorIndex := 34, attributes := #[] }, { accessFlags := 10, nameIndex := 27, descriptorIndex := 28, attributes := #[] }] 49 2 #[] #[])
  fields := #[]
  methods := #[k1m0, k1m1, k1m2]
  instanceTypes := #[]
  staticTypes := #[]
  resolved := Array.replicate 40 none
  statics := none }

def pool2 : Array CpInfo := pool [(1, .class_ 2), (0, u "com/example/twinsift/twinsift/cover/Varint"), (1, .class_ 6), (1, u "java/lang/Object"), (0, u "<init>"), (0, u "()V"), (16, u "BITS"), (0, u "I"), (2, u "LOW"), (1, u "MOST_BYTES"), (1, u "MORE"), (4, u "write"), (0, u "([BII)I")] 8

def k2m0 : Method := { name := "<init>", desc := "()V", sig := { parameters := [], returnType := none }, accessFlags := 2, code := none }
def k2c1 : Code := { maxStack := 4, maxLocals := 5, code := prog_55_method_3_code, exceptionTable := #[], attributes := #[] }
def k2m1 : Method := { name := "write", desc := "([BII)I", sig := { parameters := [(.array .byte), .int, .int], returnType := some .int }, accessFlags := 8, code := some k2c1 }
/-- com/example/twinsift/twinsift/cover/Varint -/
def k2 : Class := { plain "com/example/twinsift/twinsift/cover/Varint" (some 0) with
  accessFlags := 48
  interfaces := #[]
  cf := some (fileOf pool2 1 #[] #[{ accessFlags := 2, nameIndex := 7, descriptorIndex := 8, attributes := #[] }, { accessFlags := 8, nameIndex := 38, descriptorIndex := 39, attributes := #[] }] 48 4 #[] #[{ accessFlags := 26, nameIndex := 25, descriptorIndex := 26, attributes := #[] }, { accessFlags := 26, nameIndex := 29, descriptorIndex := 26, attributes := #[] }, { accessFlags := 24, nameIndex := 31, descriptorIndex := 26, attributes := #[] }, { accessFlags := 26, nameIndex := 33, descriptorIndex := 26, attributes := #[] }])
  fields := #[{ name := "BITS", type := .int, accessFlags := 26, slot := 0, constantValue := 0 }, { name := "LOW", type := .int, accessFlags := 26, slot := 1, constantValue := 0 }, { name := "MOST_BYTES", type := .int, accessFlags := 24, slot := 2, constantValue := 0 }, { name := "MORE", type := .int, accessFlags := 26, slot := 3, constantValue := 0 }]
  methods := #[k2m0, k2m1]
  instanceTypes := #[]
  staticTypes := #[.int, .int, .int, .int]
  resolved := Array.replicate 48 none
  statics := none }

def pool3 : Array CpInfo := pool [(1, u "java/lang/Cloneable"), (0, .class_ 1), (0, u "java/lang/Object"), (0, .class_ 3)] 3

/-- java/lang/Cloneable -/
def k3 : Class := { plain "java/lang/Cloneable" (some 0) with
  accessFlags := 1537
  interfaces := #[]
  cf := some (fileOf pool3 2 #[] #[] 1537 4 #[] #[])
  fields := #[]
  methods := #[]
  instanceTypes := #[]
  staticTypes := #[]
  resolved := Array.replicate 8 none
  statics := none }

def pool4 : Array CpInfo := pool [(1, u "java/io/Serializable"), (0, .class_ 1), (0, u "java/lang/Object"), (0, .class_ 3)] 3

/-- java/io/Serializable -/
def k4 : Class := { plain "java/io/Serializable" (some 0) with
  accessFlags := 1537
  interfaces := #[]
  cf := some (fileOf pool4 2 #[] #[] 1537 4 #[] #[])
  fields := #[]
  methods := #[]
  instanceTypes := #[]
  staticTypes := #[]
  resolved := Array.replicate 8 none
  statics := none }

/-- the primitive byte -/
def k5 : Class := { plain "byte" none with kind := .primitive 'B', accessFlags := 0x411 }
/-- [B -/
def k6 : Class := { plain "[B" (some 0) with kind := .array 5 .byte, interfaces := #[3, 4], accessFlags := 1041 }

/-- the primitive int -/
def k7 : Class := { plain "int" none with kind := .primitive 'I', accessFlags := 0x411 }
/-- [I -/
def k8 : Class := { plain "[I" (some 0) with kind := .array 7 .int, interfaces := #[3, 4], accessFlags := 1041 }

def heap : Heap := #[]
def classes : Array Class := #[k0, k1, k2, k3, k4, k5, k6, k7, k8]
def interned : List (Array UInt16 × Addr) := []
def slotsUsed : Nat := 0
def theMethod : MethodId := ⟨1, 1⟩
def args0 : Array Value := #[.int 300, .int 2, .int 7]
def aboutOver (below : List Frame) : State where
  vm := { classes := classes, interned := interned.toArray }
  heap := heap
  slotsUsed := slotsUsed
  threads := #[{ frames := .invoking theMethod args0 :: below }]
def below0 : List Frame := [.native { method := ⟨0, 0⟩, args := #[] }]
def about1 : State := aboutOver below0
def p0 : Program := .bare "" "" ""
def e0 : Env := launch0.env 0 0 0
theorem w_frames : about1.frames = Frame.invoking theMethod args0 :: below0 := rfl
set_option maxRecDepth 65536 in
theorem w_args : argsFit about1.vm theMethod args0 = true := by decide +kernel
set_option maxRecDepth 65536 in
theorem w_heap : heapFits about1 = true := by decide +kernel
set_option maxRecDepth 65536 in
theorem w_runnable : about1.curStatus? = some .runnable := by decide +kernel
set_option maxRecDepth 65536 in
theorem w_alone : about1.alone = true := by decide +kernel
set_option maxRecDepth 65536 in
theorem w_named : about1.methodNamed? x = some theMethod := by decide +kernel
set_option maxRecDepth 65536 in
theorem w_hears : about1.hears theMethod below0 = true := by decide +kernel
set_option maxRecDepth 65536 in
theorem w_ripe : about1.ripe theMethod args0 below0 = true := by decide +kernel
theorem w_running : about1.status = .running := rfl
set_option maxRecDepth 65536 in
theorem w_room : about1.hasRoom e0.platform room_1 = true :=
  launch0.hasRoom_least _ room_1 (by decide +kernel) (by decide +kernel) (by decide +kernel) (by decide +kernel) (by decide +kernel) (by decide +kernel)
theorem allAtoms_all (ts : List Jvm.Cond) (a : Array Jvm.Value) (st : Jvm.State) : (allAtoms ts).before a st = ts.all (fun c => c.before a st) := by
  induction ts with
  | nil => rfl
  | cons c t ih =>
    show (Jvm.Cond.and c (allAtoms t)).before a st = _
    rw [Jvm.Cond.before_and, ih, List.all_cons]
def words1 : List Jvm.Cond := Jvm.Cond.code x code maxLocals ret :: tables_1
/-- a 'code' word, met by the world's own term for the bytes: nothing is compared byte by byte -/
theorem code_word {y : MethodName} {bytes : ByteArray} {mx : Nat} {rt : Option FieldType} {a : Array Value} {s : State} {m : MethodId} {meth : Method} {c : Code} (h1 : s.methodNamed? y = some m) (h2 : s.vm.method? m = some meth) (h3 : meth.code = some c) (h4 : c.code = bytes)
    (h5 : (c.maxLocals == mx && c.exceptionTable.isEmpty && decide (c.maxStack ≤ mostOperands) && decide (meth.sig.returnType = rt) && !meth.locks && decide (parseMethodDescriptor y.desc = some meth.sig)) = true) : (Jvm.Cond.code y bytes mx rt).before a s = true := by
  simp only [Bool.and_eq_true, beq_iff_eq, Bool.not_eq_true', decide_eq_true_eq] at h5
  obtain ⟨⟨⟨⟨⟨g1, g2⟩, g3⟩, g4⟩, g5⟩, g6⟩ := h5
  simp [Cond.before, Cond.holds, Cond.value, h1, h2, h3, h4, g1, g2, g3, g4, g5, g6]
def isCode : Jvm.Cond → Bool
  | .code _ _ _ _ => true
  | _ => false
theorem all_split {L : List Jvm.Cond} {P : Jvm.Cond → Bool} (h1 : L.all (fun c => isCode c || P c) = true) (h2 : ∀ c ∈ L.filter isCode, P c = true) : L.all P = true := by
  refine List.all_eq_true.mpr fun c hc => ?_
  have h := List.all_eq_true.mp h1 c hc
  rcases Bool.eq_false_or_eq_true (isCode c) with hi | hi
  · exact h2 c (List.mem_filter.mpr ⟨hc, hi⟩)
  · simpa [hi] using h
set_option maxRecDepth 65536 in
theorem w_c0 : (Jvm.Cond.code x code maxLocals ret).before args0 about1 = true := code_word (m := ⟨1, 1⟩) (meth := k1m1) (c := k1c1) (by decide +kernel) rfl rfl rfl (by decide +kernel)
set_option maxRecDepth 65536 in
theorem w_c1 : (Jvm.Cond.code ({ cls := "com/example/twinsift/twinsift/cover/Varint", name := "write", desc := "([BII)I" } : Jvm.MethodName) prog_55_method_3_code (5 : Nat) (Option.some Jvm.ClassFile.FieldType.int)).before args0 about1 = true := code_word (m := ⟨2, 1⟩) (meth := k2m1) (c := k2c1) (by decide +kernel) rfl rfl rfl (by decide +kernel)
set_option maxRecDepth 65536 in
theorem w_c2 : (Jvm.Cond.code ({ cls := "com/example/twinsift/twinsift/cover/VarintWritePinLaw", name := "same", desc := "([BIIIJB)Z" } : Jvm.MethodName) method_3_code (10 : Nat) (Option.some Jvm.ClassFile.FieldType.boolean)).before args0 about1 = true := code_word (m := ⟨1, 2⟩) (meth := k1m2) (c := k1c2) (by decide +kernel) rfl rfl rfl (by decide +kernel)
def codes1 : List Jvm.Cond := [Jvm.Cond.code x code maxLocals ret, Jvm.Cond.code ({ cls := "com/example/twinsift/twinsift/cover/Varint", name := "write", desc := "([BII)I" } : Jvm.MethodName) prog_55_method_3_code (5 : Nat) (Option.some Jvm.ClassFile.FieldType.int), Jvm.Cond.code ({ cls := "com/example/twinsift/twinsift/cover/VarintWritePinLaw", name := "same", desc := "([BIIIJB)Z" } : Jvm.MethodName) method_3_code (10 : Nat) (Option.some Jvm.ClassFile.FieldType.boolean)]
set_option maxRecDepth 65536 in
theorem codes_eq : words1.filter isCode = codes1 := rfl
theorem w_codes : ∀ c ∈ words1.filter isCode, c.before args0 about1 = true := by
  rw [codes_eq]
  intro c hc
  simp only [codes1, List.mem_cons, List.not_mem_nil, or_false] at hc
  rcases hc with rfl | rfl | rfl
  · exact w_c0
  · exact w_c1
  · exact w_c2
set_option maxRecDepth 65536 in
theorem w_t1 : words1.all (fun c => isCode c || c.before args0 about1) = true := by decide +kernel
theorem w_tables : (allAtoms (Jvm.Cond.code x code maxLocals ret :: tables_1)).before args0 about1 = true := by
  rw [allAtoms_all]
  show words1.all (fun c => c.before args0 about1) = true
  refine all_split ?_ w_codes
  rw [w_t1]
set_option maxRecDepth 65536 in
theorem w_case : (Jvm.Cond.and given_1 narrow_1).before args0 about1 = true := by decide +kernel
theorem w_applies : (headSpec (Jvm.Cond.code x code maxLocals ret :: tables_1) room_1).applies x e0.platform about1 = true :=
  (Spec.applies_iff w_frames).mpr ⟨w_running, w_runnable, w_alone, w_named, w_hears, w_ripe, w_room, w_tables⟩
theorem atStart : AtStart classFile x code maxLocals ret World_1 tables_1 room_1 Calls_1 rest_1 Pre_1 launch0 p0 e0 about1 theMethod args0 below0 :=
  ⟨lists_1, trivial, launch0.admits_env _ _ _, launch0.least_env, fairChoices_fair.cas, fairChoices_fair.clock, w_frames, w_args, w_heap, w_applies, trivial, trivial, w_case⟩
end start1
theorem witness_1 : WitnessClaimed_1 := ⟨start1.p0, start1.e0, start1.about1, start1.theMethod, start1.args0, start1.below0, start1.atStart⟩
end Jvm.Pilot.@@N@@
