/- A part of the proof. -/
import Derived.Test.YtnaijgdffbfapaaGreatDoorZKeys
import Derived.Shelf.SlMaps.Copy
import Derived.Shelf.SlMaps.Clone
namespace Go.Proofs.YtnaijgdffbfapaaGreatDoor
open Go.RowKit Go.Maps Go.Shelf
open Go.WideElems (Fit rd rg rd_key rd_val rg_of)
open Go.WideShapes (sorted_perm atKey_sorted)
set_option maxRecDepth 10000

/-- A value reads as itself. -/
def heldR : Value → Option (DataW Value × List MemPlace) := fun v => some (.held v, [])

/-- A string as a key. -/
def keyS (s : ByteArray) : Lit := .string s.data.toList
theorem keyS_inj {s s' : ByteArray} (h : keyS s = keyS s') : s = s' := by
  unfold keyS at h
  injection h with h
  cases s; cases s'
  congr 1
  exact Array.toList_inj.1 h

/-- The datum D and the entries mv say the same. -/
structure Says (D : DataW Value) (mv : List (ByteArray × Value)) : Prop where
  has : ∀ s, Maps.has D (keyS s) = true ↔ s ∈ mv.map (·.1)
  at_ : ∀ s v z, (s, v) ∈ mv → D.atKey (keyS s) z = .held v

theorem key_of_reads {es : Array MapEntry} {clock : Nat} (F : Fit Tryz.prog 9 heldR es clock) {x : MapEntry} (hx : x ∈ es.toList) :
    ∃ s : ByteArray, x.key = .string s ∧ s.size ≤ maxLen ∧ rd Tryz.prog 9 heldR x = some (keyS s, .held x.val) := by
  obtain ⟨y, hy⟩ := F.reads x hx
  have hk := rd_key hy
  obtain ⟨z, hz, hzd⟩ := rd_val hy
  cases hz
  cases hxk : x.key with
  | string s =>
    rw [hxk] at hk
    simp only [keyOf, Tryz.underlying9, mapKey] at hk
    by_cases hs : s.size ≤ maxLen
    · refine ⟨s, rfl, hs, ?_⟩
      rw [hy]
      simp [hs] at hk
      obtain ⟨y1, y2⟩ := y
      simp only at hk hzd
      rw [← hk, ← hzd]
      rfl
    · have : s.data.size ≤ maxLen ↔ s.size ≤ maxLen := Iff.rfl
      simp [hs] at hk
  | _ => rw [hxk] at hk; simp [keyOf, Tryz.underlying9, mapKey] at hk

theorem says_of_fit {es : Array MapEntry} {clock : Nat} (F : Fit Tryz.prog 9 heldR es clock) {mv : List (ByteArray × Value)} (he : es.toList.map (fun e => (e.key, e.val)) = mv.map (fun p => (Value.string p.1, p.2))) :
    Says (.map ((es.toList.map (rg Tryz.prog 9 heldR)).foldr DataW.insert [])) mv := by
  have K := string_keyed (P := Tryz.prog) (k := 9) Tryz.underlying9
  have back : ∀ s v, (s, v) ∈ mv → ∃ x ∈ es.toList, rg Tryz.prog 9 heldR x = (keyS s, .held v) := by
    intro s v hm
    have : (Value.string s, v) ∈ es.toList.map (fun e => (e.key, e.val)) := by rw [he]; exact List.mem_map.2 ⟨_, hm, rfl⟩
    obtain ⟨x, hx, hxe⟩ := List.mem_map.1 this
    simp only [Prod.mk.injEq] at hxe
    obtain ⟨s', h1, _, h2⟩ := key_of_reads F hx
    refine ⟨x, hx, ?_⟩
    rw [rg_of h2]
    have h1 := (Value.string.injEq _ _).mp (hxe.1.symm.trans h1)
    rw [← h1, hxe.2]
  have fwd : ∀ x ∈ es.toList, ∃ s v, (s, v) ∈ mv ∧ rg Tryz.prog 9 heldR x = (keyS s, .held v) := by
    intro x hx
    obtain ⟨s, h1, _, h2⟩ := key_of_reads F hx
    have : (x.key, x.val) ∈ mv.map (fun p => (Value.string p.1, p.2)) := by rw [← he]; exact List.mem_map.2 ⟨x, hx, rfl⟩
    obtain ⟨p, hp, e⟩ := List.mem_map.1 this
    simp only [Prod.mk.injEq, h1] at e
    injection e.1 with e1
    refine ⟨s, x.val, ?_, rg_of h2⟩
    rw [← e1, ← e.2]
    exact hp
  have hlit : ∀ s v, (s, v) ∈ mv → WideAt.IsKeyLit (keyS s) := fun s v hm => by
    obtain ⟨x, hx, e⟩ := back s v hm
    obtain ⟨y, hy⟩ := F.reads x hx
    have := K.key (rd_key hy)
    rw [rg_of hy] at e
    rw [e] at this
    exact this
  constructor
  · intro s
    rw [has_eq, List.any_eq_true]
    constructor
    · rintro ⟨p, hp, hk⟩
      obtain ⟨x, hx, rfl⟩ := List.mem_map.1 ((sorted_perm _).mem_iff.1 hp)
      obtain ⟨s', v, hm, e⟩ := fwd x hx
      rw [e] at hk
      have := keyS_inj (WideAt.sameKey_eq hk)
      exact List.mem_map.2 ⟨_, hm, this⟩
    · intro hs
      obtain ⟨p, hp, rfl⟩ := List.mem_map.1 hs
      obtain ⟨x, hx, e⟩ := back p.1 p.2 hp
      refine ⟨_, (sorted_perm _).mem_iff.2 (List.mem_map.2 ⟨x, hx, rfl⟩), ?_⟩
      rw [e]
      exact WideAt.sameKey_self (hlit p.1 p.2 hp)
  · intro s v z hm
    obtain ⟨x, hx, e⟩ := back s v hm
    have := (atKey_sorted (es.toList.map (rg Tryz.prog 9 heldR)) (Maps.fit_rising K F) (keyS s) (hlit s v hm)).2 (rg Tryz.prog 9 heldR x) (List.mem_map.2 ⟨x, hx, rfl⟩) (by rw [e]) z
    rw [this, e]

/-- A map of entries as the library's contracts have it. -/
theorem owns_held {w : World} {b : Nat} {mv : List (ByteArray × Value)} (hM : MapAt w b mv) (hl : mv.length ≤ 1000000) (hk : ∀ p ∈ mv, p.1.size ≤ maxLen) :
    ∃ D : DataW Value, w.ownsMap Tryz.prog 9 heldR b mv.length D ∧ Maps.size D = mv.length ∧ Says D mv := by
  obtain ⟨es, c, hb, hs, he, hn⟩ := hM
  have hsz : es.size = mv.length := by have := congrArg List.length he; simpa using this
  have hrd : ∀ x ∈ es.toList, ∃ s : ByteArray, x.key = .string s ∧ rd Tryz.prog 9 heldR x = some (keyS s, .held x.val) := by
    intro x hx
    have h1 : (x.key, x.val) ∈ mv.map (fun p => (Value.string p.1, p.2)) := by rw [← he]; exact List.mem_map.2 ⟨x, hx, rfl⟩
    obtain ⟨p, hp, e⟩ := List.mem_map.1 h1
    simp only [Prod.mk.injEq] at e
    refine ⟨p.1, e.1.symm, ?_⟩
    unfold WideElems.rd
    rw [← e.1, keyOf_string p.1 (hk p hp)]
    rfl
  have F : Fit Tryz.prog 9 heldR es c := by
    refine ⟨by unfold maxLen; omega, ⟨fun e he1 => hs.born e he1, hs.nodup, ?_⟩, fun x hx => ?_⟩
    · have e1 : es.toList.map (·.key) = (mv.map (·.1)).map Value.string := by
        have := congrArg (List.map (·.1)) he
        rw [List.map_map, List.map_map] at this
        rw [List.map_map]
        exact this
      rw [e1]
      exact List.pairwise_map.2 (hn.imp fun hne e => hne (by injection e))
    · obtain ⟨s, _, h⟩ := hrd x hx
      exact ⟨_, h⟩
  refine ⟨_, ⟨es, c, hb, F, by omega, rfl⟩, ?_, says_of_fit F he⟩
  show ((es.toList.map (rg Tryz.prog 9 heldR)).foldr DataW.insert []).length = _
  rw [length_sorted]
  simp [hsz]

/-- .. and back. -/
theorem mapAt_held {w : World} {b n : Nat} {D : DataW Value} (h : w.ownsMap Tryz.prog 9 heldR b n D) : ∃ mv, MapAt w b mv ∧ Says D mv := by
  obtain ⟨es, c, hb, F, _, rfl⟩ := h
  have hst := (MapKept.stamped_iff es c).1 F.stamped
  have hall : ∀ x ∈ es.toList, ∃ s : ByteArray, x.key = .string s := fun x hx => by obtain ⟨s, h, _⟩ := key_of_reads F hx; exact ⟨s, h⟩
  obtain ⟨mv, hmv⟩ : ∃ mv : List (ByteArray × Value), es.toList.map (fun e => (e.key, e.val)) = mv.map (fun p => (Value.string p.1, p.2)) := by
    have : ∀ l : List MapEntry, (∀ x ∈ l, ∃ s : ByteArray, x.key = .string s) → ∃ mv : List (ByteArray × Value), l.map (fun e => (e.key, e.val)) = mv.map (fun p => (Value.string p.1, p.2)) := by
      intro l
      induction l with
      | nil => exact fun _ => ⟨[], rfl⟩
      | cons x l ih =>
        intro h
        obtain ⟨s, hs⟩ := h x (by simp)
        obtain ⟨mv, e⟩ := ih (fun y hy => h y (List.mem_cons_of_mem _ hy))
        exact ⟨(s, x.val) :: mv, by simp [hs, e]⟩
    exact this _ hall
  refine ⟨mv, ⟨es, c, hb, ⟨hst.1, hst.2.1⟩, hmv, ?_⟩, says_of_fit F hmv⟩
  have e1 : es.toList.map (·.key) = (mv.map (·.1)).map Value.string := by
    have := congrArg (List.map (·.1)) hmv
    rw [List.map_map, List.map_map] at this
    rw [List.map_map]
    exact this
  have h2 : (es.toList.map (·.key)).Nodup := List.pairwise_map.2 hst.2.2
  rw [e1] at h2
  exact (List.pairwise_map.1 h2).imp fun hne e => hne (by rw [e])

theorem Says.find {D : DataW Value} {mv : List (ByteArray × Value)} (h : Says D mv) {s : ByteArray} {v : Value} (hm : s ∈ mv.map (·.1)) (ha : D.atKey (keyS s) .nil = .held v) : (s, v) ∈ mv := by
  obtain ⟨p, hp, rfl⟩ := List.mem_map.1 hm
  have := (h.at_ p.1 p.2 .nil hp).symm.trans ha
  injection this with this
  rw [← this]
  exact hp

/-- One map laid into another. -/
def Laid (mv md ms : List (ByteArray × Value)) : Prop := ∀ p, p ∈ mv ↔ p ∈ ms ∨ (p ∈ md ∧ p.1 ∉ ms.map (·.1))

theorem laid_of {Dd Ds : DataW Value} {mv md ms : List (ByteArray × Value)} (hd : Says Dd md) (hs : Says Ds ms) (hm : IsMap Dd) (hlit : ∃ es, Ds = .map es ∧ (∀ p ∈ es, WideAt.IsKeyLit p.1) ∧ es.Pairwise fun p q => p.1 ≠ q.1) (h : Says (Lib.mergeD Dd Ds) mv) : Laid mv md ms := by
  obtain ⟨es, rfl, hk, hp⟩ := hlit
  have e1 : ∀ s, Maps.has (Lib.mergeD Dd (.map es)) (keyS s) = (Maps.has Dd (keyS s) || Maps.has (.map es) (keyS s)) := fun s => has_foldPut (keyS s) es Dd hm hk
  have e0 : ∀ s, (Lib.mergeD Dd (.map es)).atKey (keyS s) .nil = (es.foldl (fun D p => D.put p.1 p.2) Dd).atKey (keyS s) .nil := fun s => rfl
  have e3 : ∀ s, s ∈ ms.map (·.1) → (Lib.mergeD Dd (.map es)).atKey (keyS s) .nil = (DataW.map es).atKey (keyS s) .nil := by
    intro s hs'
    have e2 := atKey_foldPut (keyS s) .nil es Dd hm hk hp
    rw [e0, e2]
    cases hf : es.find? (fun p => p.1.sameKey (keyS s)) with
    | some p => simp only [DataW.atKey, hf]
    | none =>
      have h1 := (hs.has s).2 hs'
      rw [has_eq] at h1
      obtain ⟨p, hp1, hp2⟩ := List.any_eq_true.1 h1
      exact absurd hp2 (by simpa using List.find?_eq_none.1 hf p hp1)
  have e4 : ∀ s, s ∉ ms.map (·.1) → (Lib.mergeD Dd (.map es)).atKey (keyS s) .nil = Dd.atKey (keyS s) .nil := by
    intro s hs'
    have e2 := atKey_foldPut (keyS s) .nil es Dd hm hk hp
    rw [e0, e2]
    cases hf : es.find? (fun p => p.1.sameKey (keyS s)) with
    | none => rfl
    | some p =>
      refine absurd ((hs.has s).1 ?_) hs'
      rw [has_eq]
      exact List.any_eq_true.2 ⟨p, List.mem_of_find?_eq_some hf, List.find?_some (p := fun (q : Lit × DataW Value) => q.1.sameKey (keyS s)) hf⟩
  have e5 : ∀ s, s ∈ mv.map (·.1) ↔ s ∈ md.map (·.1) ∨ s ∈ ms.map (·.1) := by
    intro s
    rw [← h.has, ← hd.has, ← hs.has, e1, Bool.or_eq_true]
  rintro ⟨s, v⟩
  constructor
  · intro hin
    have hk1 : s ∈ mv.map (·.1) := List.mem_map.2 ⟨_, hin, rfl⟩
    have ha := h.at_ s v .nil hin
    by_cases hms : s ∈ ms.map (·.1)
    · exact Or.inl (hs.find hms ((e3 s hms).symm.trans ha))
    · refine Or.inr ⟨hd.find (((e5 s).1 hk1).resolve_right hms) ((e4 s hms).symm.trans ha), hms⟩
  · rintro (hin | ⟨hin, hno⟩)
    · have hms : s ∈ ms.map (·.1) := List.mem_map.2 ⟨_, hin, rfl⟩
      exact h.find ((e5 s).2 (Or.inr hms)) ((e3 s hms).trans (hs.at_ s v .nil hin))
    · exact h.find ((e5 s).2 (Or.inl (List.mem_map.2 ⟨_, hin, rfl⟩))) ((e4 s hno).trans (hd.at_ s v .nil hin))

theorem Says.keys {w : World} {b n : Nat} {D : DataW Value} (h : w.ownsMap Tryz.prog 9 heldR b n D) : ∃ es, D = .map es ∧ (∀ p ∈ es, WideAt.IsKeyLit p.1) ∧ es.Pairwise fun p q => p.1 ≠ q.1 := by
  obtain ⟨es, e, h1, h2⟩ := h.entries (string_keyed Tryz.underlying9)
  exact ⟨es, e, h2, h1⟩
end Go.Proofs.YtnaijgdffbfapaaGreatDoor
