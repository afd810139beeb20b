/-
  Maps keyed by interface values that hold pointers to plain blocks (map[Value]bool, every element true), and the operations on them.
-/
import Derived.Test.Qxb6604422aProg
import Derived.WalkKit
import Derived.WalkSpells
import Derived.WalkLawsBesides
import Derived.LaidEql
import Derived.Maps.OwnSet
namespace Go.Proofs.Qxb6604422a
open Go.RowKit Go.ChangeMaps Go.MapKept

/-- Block p is a plain block. -/
def Plain (w : World) (p : Nat) : Prop := ∃ cs t, w.heap[p]? = some (.cells cs t (0, 0))
/-- An interface value that holds a pointer to the head of block p, of type t. -/
def kp (t p : Nat) : Value := .iface t (.pointer (some ⟨p, 0, none⟩))
/-- Block b is a map whose keys are ks, in that order, each with true. -/
def MapIs (w : World) (b : Nat) (ks : List Value) : Prop := ∃ es clock, w.heap[b]? = some (.map es clock) ∧ es.toList.map (·.key) = ks ∧ ∀ e ∈ es.toList, e.val = .bool true

/-- w' is w but for the blocks of X (and for draws). -/
structure Upd (X : List Nat) (w w' : World) : Prop where
  os : w'.os = w.os
  tape : w'.tape = w.tape
  output : w'.output = w.output
  size : w'.heap.size = w.heap.size
  block : ∀ k, k ∉ X → w'.heap[k]? = w.heap[k]?

theorem Upd.refl (X : List Nat) (w : World) : Upd X w w := ⟨rfl, rfl, rfl, rfl, fun _ _ => rfl⟩
theorem Upd.trans {X : List Nat} {a b c : World} (h : Upd X a b) (k : Upd X b c) : Upd X a c := ⟨k.os.trans h.os, k.tape.trans h.tape, k.output.trans h.output, k.size.trans h.size, fun i hi => (k.block i hi).trans (h.block i hi)⟩
theorem Upd.mono {X Y : List Nat} {a b : World} (h : Upd X a b) (hs : ∀ k, k ∈ X → k ∈ Y) : Upd Y a b := ⟨h.os, h.tape, h.output, h.size, fun i hi => h.block i (fun q => hi (hs i q))⟩
theorem Upd.drews {X : List Nat} {a b : World} (h : Upd X a b) (n : Nat) : Upd X a (b.drewN n) := ⟨h.os, h.tape, h.output, h.size, h.block⟩
theorem Upd.drew {X : List Nat} {a b : World} (h : Upd X a b) : Upd X a b.drew := ⟨h.os, h.tape, h.output, h.size, h.block⟩
theorem Upd.setCell {X : List Nat} {a b : World} (h : Upd X a b) (p : Addr) (hp : p.block ∈ X) (v : Value) : Upd X a (b.setCell p v) :=
  ⟨h.os, h.tape, h.output, by rw [World.size_setCell]; exact h.size, fun k hk => by rw [Below.heap_setCell _ _ _ _ (fun e => hk (by rw [e]; exact hp))]; exact h.block k hk⟩
theorem Upd.plain {X : List Nat} {a b : World} (h : Upd X a b) {p : Nat} (hp : p ∉ X) (k : Plain a p) : Plain b p := by
  obtain ⟨cs, t, e⟩ := k
  exact ⟨cs, t, (h.block p hp).trans e⟩
theorem Upd.cell {X : List Nat} {a b : World} (h : Upd X a b) {p : Addr} (hp : p.block ∉ X) : b.cell? p = a.cell? p := World.cell?_of_block (h.block p.block hp)
theorem Upd.map {X : List Nat} {a b : World} (h : Upd X a b) {m : Nat} (hm : m ∉ X) {ks : List Value} (k : MapIs a m ks) : MapIs b m ks := by
  obtain ⟨es, c, e, r⟩ := k
  exact ⟨es, c, (h.block m hm).trans e, r⟩
theorem Upd.below {X : List Nat} {a b : World} (h : Upd X a b) {B : Nat} (hX : ∀ k, k ∈ X → B ≤ k) : Below B a b :=
  ⟨h.os, h.tape, h.output, by rw [h.size]; exact Nat.le_refl _, fun k hk => h.block k (fun q => by have := hX k q; omega)⟩
theorem Upd.setBlock {w : World} {b : Nat} (o : Obj) : Upd [b] w (setBlock w b o) :=
  ⟨rfl, rfl, rfl, by simp [ChangeMaps.setBlock], fun k hk => by
    simp only [ChangeMaps.setBlock]
    rw [Array.getElem?_setIfInBounds, if_neg (fun e => hk (by simp [e]))]⟩

theorem und20 : Try.prog.underlying 20 = some (.interface #[]) := Try.underlying20

/-- What is asked of a pointer's type. -/
structure PtrType (t : TypeId) : Prop where
  ok : ∃ te i j, Try.prog.underlying t = some (.pointer te) ∧ Try.prog.info? t = some i ∧ i.comparable = true ∧ Try.prog.info? te = some j ∧ j.size ≠ 0

theorem comp_of {t : Nat} (h : (Try.prog.info? t).map (·.comparable) = some true) : ∃ i, Try.prog.info? t = some i ∧ i.comparable = true := by
  obtain ⟨i, hi, hc⟩ := Option.map_eq_some_iff.1 h
  exact ⟨i, hi, hc⟩
theorem size_of {t n : Nat} (h : (Try.prog.info? t).map (·.size) = some n) : ∃ i, Try.prog.info? t = some i ∧ i.size = n := by
  obtain ⟨i, hi, hc⟩ := Option.map_eq_some_iff.1 h
  exact ⟨i, hi, hc⟩
theorem comp32 : (Try.prog.info? 32).map (·.comparable) = some true := by kernel_rfl
theorem comp40 : (Try.prog.info? 40).map (·.comparable) = some true := by kernel_rfl
theorem size50 : (Try.prog.info? 50).map (·.size) = some 2 := by kernel_rfl
theorem size43 : (Try.prog.info? 43).map (·.size) = some 1 := by kernel_rfl
theorem ptr32 : PtrType 32 := by
  obtain ⟨i, hi, hc⟩ := comp_of comp32
  obtain ⟨j, hj, hs⟩ := size_of size50
  exact ⟨50, i, j, Try.underlying32, hi, hc, hj, by omega⟩
theorem ptr40 : PtrType 40 := by
  obtain ⟨i, hi, hc⟩ := comp_of comp40
  obtain ⟨j, hj, hs⟩ := size_of size43
  exact ⟨43, i, j, Try.underlying40, hi, hc, hj, by omega⟩

theorem run_equal_same {t : Nat} (T : PtrType t) (p : Nat) (w : World) : (Op.equal 20 (kp t p) (kp t p)).run Try.prog w = .ok true w := by
  obtain ⟨te, i, j, h1, h2, h3, h4, _⟩ := T.ok
  exact run_equalIn_iface_ptr_same w 9998 ⟨p, 0, none⟩ und20 h1 h2 h3 h4
theorem run_equal_other {t : Nat} (T : PtrType t) {p q : Nat} {w : World} (hne : p ≠ q) (hp : Plain w p) (hq : Plain w q) : (Op.equal 20 (kp t p) (kp t q)).run Try.prog w = .ok false w := by
  obtain ⟨te, i, j, h1, h2, h3, h4, h5⟩ := T.ok
  obtain ⟨cp, tp, ep⟩ := hp
  obtain ⟨cq, tq, eq⟩ := hq
  exact run_equalIn_iface_ptr_other w 9998 (a := ⟨p, 0, none⟩) (b := ⟨q, 0, none⟩) und20 h1 h2 h3 h4 h5 (fun e => hne (by cases e; rfl)) ep eq

/-- Looking for a key among entries: it isn't there. -/
theorem run_asking_no {t : Nat} (T : PtrType t) {p : Nat} {w : World} (hp : Plain w p) : ∀ (es : List MapEntry) (L : List Nat) (k : Nat), es.map (·.key) = L.map (kp t) → (∀ q ∈ L, Plain w q) → p ∉ L →
    (Instr.findAsking 20 (kp t p) es k).run Try.prog w = .ok none w
  | [], L, k, _, _, _ => by simp [Instr.findAsking]
  | e :: es, [], k, h, _, _ => by simp at h
  | e :: es, q :: L, k, h, hL, hn => by
    simp only [List.map_cons, List.cons.injEq] at h
    have h1 := run_equal_other T (w := w) (fun (c : p = q) => hn (by simp [c])) hp (hL q (by simp))
    have ih := run_asking_no T hp es L (k + 1) h.2 (fun x hx => hL x (by simp [hx])) (fun c => hn (by simp [c]))
    simp only [Instr.findAsking, h.1]
    simp [h1, ih]
/-- .. it is there. -/
theorem run_asking_yes {t : Nat} (T : PtrType t) {p : Nat} {w : World} (hp : Plain w p) : ∀ (es : List MapEntry) (L : List Nat) (k : Nat), es.map (·.key) = L.map (kp t) → (∀ q ∈ L, Plain w q) → p ∈ L →
    ∃ m e, (Instr.findAsking 20 (kp t p) es k).run Try.prog w = .ok (some (k + m, e.val)) w ∧ es[m]? = some e ∧ e.key = kp t p
  | [], [], k, _, _, h => by simp at h
  | [], _ :: _, k, h, _, _ => by simp at h
  | e :: es, [], k, h, _, _ => by simp at h
  | e :: es, q :: L, k, h, hL, hn => by
    simp only [List.map_cons, List.cons.injEq] at h
    by_cases c : p = q
    · subst c
      refine ⟨0, e, ?_, rfl, h.1⟩
      simp only [Instr.findAsking, h.1]
      simp [run_equal_same T p w]
    · have h1 := run_equal_other T (w := w) c hp (hL q (by simp))
      obtain ⟨m, e', i1, i2, i3⟩ := run_asking_yes T hp es L (k + 1) h.2 (fun x hx => hL x (by simp [hx])) (by simpa [c] using hn)
      refine ⟨m + 1, e', ?_, by simpa using i2, i3⟩
      simp only [Instr.findAsking, h.1]
      rw [show k + (m + 1) = k + 1 + m by omega]
      simp [h1, i1]

theorem run_findKey_asking {t : Nat} (p : Nat) (es : List MapEntry) (w : World) : (Instr.findKey 20 (kp t p) es).run Try.prog w = (Instr.findAsking 20 (kp t p) es).run Try.prog w := by
  cases es with
  | nil => simp [Instr.findKey, run_underlying und20, Instr.findNow, Instr.findAsking]
  | cons e es => simp [Instr.findKey, run_underlying und20, Instr.findNow, Instr.sameNow]

theorem run_checkKey_ptr {t : Nat} (T : PtrType t) (p : Nat) (em : Bool) (w : World) : (Instr.checkKey em 10000 20 (kp t p)).run Try.prog w = .ok () w := by
  obtain ⟨te, i, j, h1, h2, h3, h4, h5⟩ := T.ok
  have : ∀ n, (Instr.checkKey em (n + 2) 20 (kp t p)).run Try.prog w = .ok () w := fun n => by
    simp [Instr.checkKey, kp, run_underlying und20, run_underlying h1, typeInfo, h2, h3]
  exact this 9998
theorem run_stays {t : Nat} (p : Nat) (w : World) : (Instr.keyThatStays (kp t p) (kp t p)).run Try.prog w = .ok (kp t p) w := by
  have : ∀ n, Instr.sameBits (n + 1) (kp t p) (kp t p) = true := fun n => by simp [kp, Instr.sameBits]
  simp [Instr.keyThatStays, this 9999]

/-- p joins the blocks L. -/
def add (L : List Nat) (p : Nat) : List Nat := if p ∈ L then L else L ++ [p]

/-- 'm[k] = true'. -/
theorem run_put {t m : Nat} (T : PtrType t) (hm : Try.prog.underlying m = some (.map 20 4)) {p b : Nat} {L : List Nat} {w : World} (h : MapIs w b (L.map (kp t))) (hp : Plain w p) (hL : ∀ q ∈ L, Plain w q) :
    ∃ w', (Instr.mapUpdate m (.map (some b)) (kp t p) (.bool true)).run Try.prog w = .ok () w' ∧ MapIs w' b ((add L p).map (kp t)) ∧ Upd [b] w w' := by
  obtain ⟨es, clock, hb, hk, hv⟩ := h
  by_cases c : p ∈ L
  · obtain ⟨k, e, h1, h2, h3⟩ := run_asking_yes T hp es.toList L 0 hk hL c
    have hj : es[k]? = some e := by simpa using h2
    refine ⟨setBlock w b (.map (es.modify k fun e => { e with key := kp t p, val := .bool true }) clock), ?_, ⟨_, _, heap_setBlock_same hb _, ?_, ?_⟩, Upd.setBlock _⟩
    · simp [Instr.mapUpdate, run_underlying hm, MapKept.run_getObj_map hb, run_checkKey_ptr T, run_findKey_asking, h1, hj, h3, run_stays, MapKept.run_setObj_map _ hb, Result.andThen, ChangeMaps.setBlock]
    · rw [add, if_pos c, ← hk]
      apply List.ext_getElem?
      intro x
      simp only [Array.toList_modify, List.getElem?_map, List.getElem?_modify, Array.getElem?_toList]
      by_cases ex : k = x
      · subst ex; rw [hj]; simp [h3]
      · simp [ex]
    · intro x hx
      rcases MapFrom.mem_modify hx with hx | ⟨e', _, rfl⟩
      · exact hv x hx
      · rfl
  · have h1 := run_asking_no T hp es.toList L 0 hk hL c
    refine ⟨setBlock w b (.map (es.push ⟨kp t p, .bool true, clock⟩) (clock + 1)), ?_, ⟨_, _, heap_setBlock_same hb _, ?_, ?_⟩, Upd.setBlock _⟩
    · simp [Instr.mapUpdate, run_underlying hm, MapKept.run_getObj_map hb, run_checkKey_ptr T, run_findKey_asking, h1, MapKept.run_setObj_map _ hb, Result.andThen, ChangeMaps.setBlock]
    · rw [add, if_neg c, Array.toList_push, List.map_append, List.map_append, hk]; rfl
    · intro x hx
      simp only [Array.toList_push, List.mem_append, List.mem_singleton] at hx
      rcases hx with hx | rfl
      · exact hv x hx
      · rfl

theorem zero4 : (zeroValue 4).run Try.prog = fun w => .ok (.bool false) w := by funext w; kernel_rfl

/-- 'm[k]'. -/
theorem run_look {t m : Nat} (T : PtrType t) (hm : Try.prog.underlying m = some (.map 20 4)) {p b : Nat} {L : List Nat} {w : World} (h : MapIs w b (L.map (kp t))) (hp : Plain w p) (hL : ∀ q ∈ L, Plain w q) :
    (Instr.lookup m (.map (some b)) (kp t p) false).run Try.prog w = .ok (.bool (decide (p ∈ L))) w := by
  obtain ⟨es, clock, hb, hk, hv⟩ := h
  by_cases c : p ∈ L
  · obtain ⟨k, e, h1, h2, h3⟩ := run_asking_yes T hp es.toList L 0 hk hL c
    have hval := hv e (List.mem_of_getElem? h2)
    simp [Instr.lookup, run_underlying hm, MapKept.run_getObj_map hb, run_checkKey_ptr T, run_findKey_asking, h1, hval, Result.andThen, c]
  · have h1 := run_asking_no T hp es.toList L 0 hk hL c
    have hz := congrFun zero4 w
    simp [Instr.lookup, run_underlying hm, MapKept.run_getObj_map hb, run_checkKey_ptr T, run_findKey_asking, h1, hz, Result.andThen, c]

/-- 'delete(m, k)' of the one key. -/
theorem run_drop {t m : Nat} (T : PtrType t) (hm : Try.prog.underlying m = some (.map 20 4)) {p b : Nat} {w : World} (h : MapIs w b [kp t p]) (hp : Plain w p) :
    ∃ w', (∀ kt ty, (Builtin.delete_ #[m, kt] ty #[.map (some b), kp t p]).run Try.prog w = .ok (.tuple #[]) w') ∧ MapIs w' b [] ∧ Upd [b] w w' := by
  obtain ⟨es, clock, hb, hk, hv⟩ := h
  obtain ⟨k, e, h1, h2, h3⟩ := run_asking_yes T hp es.toList [p] 0 (by simpa using hk) (by simpa using hp) (by simp)
  have hlen : es.toList.length = 1 := by have := congrArg List.length hk; simpa using this
  have hk0 : k = 0 := by have := (List.getElem?_eq_some_iff.1 h2).1; omega
  subst hk0
  refine ⟨setBlock w b (.map (es.eraseIdxIfInBounds 0) clock), ?_, ⟨_, _, heap_setBlock_same hb _, ?_, ?_⟩, Upd.setBlock _⟩
  · intro kt ty
    simp [Builtin.delete_, run_underlying hm, MapKept.run_getObj_map hb, run_checkKey_ptr T, run_findKey_asking, h1, MapKept.run_setObj_map _ hb, Result.andThen, ChangeMaps.setBlock]
  · have hs : es.size = 1 := by simpa using hlen
    obtain ⟨x, rfl⟩ : ∃ x, es = #[x] := by
      obtain ⟨l⟩ := es
      match l, hlen with
      | [x], _ => exact ⟨x, rfl⟩
    simp [Array.eraseIdxIfInBounds]
  · have hs : es.size = 1 := by simpa using hlen
    obtain ⟨x, rfl⟩ : ∃ x, es = #[x] := by
      obtain ⟨l⟩ := es
      match l, hlen with
      | [x], _ => exact ⟨x, rfl⟩
    intro y hy
    exact absurd hy (by simp [Array.eraseIdxIfInBounds])

/-- 'len(m)'. -/
theorem run_count {m b : Nat} (hm : Try.prog.underlying m = some (.map 20 4)) {ty : TypeId} {ks : List Value} {w : World} (h : MapIs w b ks) :
    (Builtin.len_ #[m] ty #[.map (some b)]).run Try.prog w = .ok (goInt ks.length) w := by
  obtain ⟨es, clock, hb, hk, hv⟩ := h
  have hlen : ks.length = es.size := by rw [← hk]; simp
  simp [Builtin.len_, run_underlying hm, MapKept.run_getObj_map hb, hlen]
end Go.Proofs.Qxb6604422a
