/- Names of a tree replaced, and replaced back: plain law, no condition. -/
import Derived.Test.YtlfbmpenekiigaaGreatDoorKinds
namespace Go.Proofs.YtlfbmpenekiigaaGreatDoor

/-- A tree with another text for a name. -/
def ren (f g : ByteArray) : Nat → Tree → Tree
  | 0, t => t
  | d + 1, t => if t.kind = kName ∧ t.text = f then ⟨kName, g, 0, []⟩ else ⟨t.kind, t.text, t.num, t.kids.map (ren f g d)⟩

/-- A tree has a name with a text. -/
def has (f : ByteArray) : Nat → Tree → Prop
  | 0, _ => False
  | d + 1, t => (t.kind = kName ∧ t.text = f) ∨ ∃ x ∈ t.kids, has f d x

theorem ren_kind (f g : ByteArray) (d : Nat) (t : Tree) : (ren f g d t).kind = t.kind := by
  cases d with
  | zero => rfl
  | succ d =>
    unfold ren
    split
    · next h => exact h.1.symm
    · rfl

theorem map_same {h : Tree → Tree} : ∀ {l : List Tree}, (∀ x ∈ l, h x = x) → l.map h = l
  | [], _ => rfl
  | x :: l, k => by rw [List.map_cons, k x (by simp), map_same (fun y hy => k y (by simp [hy]))]

theorem ren_none (f g : ByteArray) : ∀ (d : Nat) (t : Tree), ¬ has f d t → ren f g d t = t
  | 0, _, _ => rfl
  | d + 1, t, h => by
    unfold has at h
    unfold ren
    rw [if_neg (fun e => h (.inl e)), map_same (fun x hx => ren_none f g d x (fun e => h (.inr ⟨x, hx, e⟩)))]
    exact t.eta

theorem leaf_name {t : Tree} (h : Good t) (hk : t.kind = kName) : t.num = 0 ∧ t.kids = [] := by
  rcases h with rfl | h
  · exact (absurd hk (by decide))
  · unfold Shape at h
    rw [hk] at h
    rcases h with h | h | h | h | h | h | h | h | h | h | h
    · exact ⟨h.2.1, h.2.2⟩
    all_goals exact absurd h.1 (by decide)

theorem ren_back (f g : ByteArray) : ∀ (d : Nat) (t : Tree), All Good d t → ¬ has g d t → ren g f d (ren f g d t) = t
  | 0, _, h, _ => h.elim
  | d + 1, t, h, hn => by
    unfold has at hn
    by_cases e : t.kind = kName ∧ t.text = f
    · have h1 : ren f g (d + 1) t = ⟨kName, g, 0, []⟩ := by unfold ren; rw [if_pos e]
      obtain ⟨hnum, hkids⟩ := leaf_name h.1 e.1
      rw [h1]
      unfold ren
      rw [if_pos ⟨rfl, rfl⟩, ← e.1, ← e.2, ← hnum, ← hkids]
      exact t.eta
    · have h1 : ren f g (d + 1) t = ⟨t.kind, t.text, t.num, t.kids.map (ren f g d)⟩ := by unfold ren; rw [if_neg e]
      rw [h1]
      unfold ren
      rw [if_neg (fun e => hn (.inl e)), List.map_map]
      show (⟨t.kind, t.text, t.num, t.kids.map (ren g f d ∘ ren f g d)⟩ : Tree) = t
      rw [map_same (h := ren g f d ∘ ren f g d) (fun x hx => ren_back f g d x (h.2 x hx) (fun e => hn (.inr ⟨x, hx, e⟩)))]
      exact t.eta

theorem ren_has (f g : ByteArray) : ∀ (d : Nat) (t : Tree), has f d t → has g d (ren f g d t)
  | 0, _, h => h.elim
  | d + 1, t, h => by
    unfold has ren
    by_cases e : t.kind = kName ∧ t.text = f
    · rw [if_pos e]; exact .inl ⟨rfl, rfl⟩
    · rw [if_neg e]
      unfold has at h
      rcases h with h | ⟨x, hx, h⟩
      · exact (e h).elim
      · exact .inr ⟨_, List.mem_map.2 ⟨x, hx, rfl⟩, ren_has f g d x h⟩

theorem shape_map {t : Tree} {f g : ByteArray} {d : Nat} (h : Shape t) : Shape ⟨t.kind, t.text, t.num, t.kids.map (ren f g d)⟩ := by
  have hk := ren_kind f g d
  unfold Shape at h ⊢
  rcases h with h | h | h | h | h | h | h | h | h | h | h
  · exact .inl ⟨h.1, h.2.1, by simp [h.2.2]⟩
  · exact .inr (.inl ⟨h.1, h.2.1, by simp [h.2.2]⟩)
  · exact .inr (.inr (.inl ⟨h.1, h.2.1, by simp [h.2.2]⟩))
  · obtain ⟨a, b, c, x, e, hx⟩ := h
    exact .inr (.inr (.inr (.inl ⟨a, b, c, _, by rw [e]; rfl, by rw [hk]; exact hx⟩)))
  · obtain ⟨a, b, x, e, hx⟩ := h
    exact .inr (.inr (.inr (.inr (.inl ⟨a, b, _, by rw [e]; rfl, by rw [hk]; exact hx⟩))))
  · obtain ⟨a, b, c, x, y, e, hx, hy⟩ := h
    exact .inr (.inr (.inr (.inr (.inr (.inl ⟨a, b, c, _, _, by rw [e]; rfl, by rw [hk]; exact hx, by rw [hk]; exact hy⟩)))))
  · obtain ⟨a, b, x, y, e, hx⟩ := h
    exact .inr (.inr (.inr (.inr (.inr (.inr (.inl ⟨a, b, _, _, by rw [e]; rfl, by rw [hk]; exact hx⟩))))))
  · obtain ⟨a, b, c, hx⟩ := h
    refine .inr (.inr (.inr (.inr (.inr (.inr (.inr (.inl ⟨a, b, c, ?_⟩)))))))
    intro x hm
    obtain ⟨y, hy, rfl⟩ := List.mem_map.1 hm
    rw [hk]; exact hx y hy
  · obtain ⟨a, b, hx⟩ := h
    refine .inr (.inr (.inr (.inr (.inr (.inr (.inr (.inr (.inl ⟨a, b, ?_⟩))))))))
    intro x hm
    obtain ⟨y, hy, rfl⟩ := List.mem_map.1 hm
    rw [hk]; exact hx y hy
  · obtain ⟨a, b, c, x, l, e, hx, hl⟩ := h
    refine .inr (.inr (.inr (.inr (.inr (.inr (.inr (.inr (.inr (.inl ⟨a, b, c, _, _, by rw [e]; rfl, by rw [hk]; exact hx, ?_⟩)))))))))
    intro x hm
    obtain ⟨y, hy, rfl⟩ := List.mem_map.1 hm
    rw [hk]; exact hl y hy
  · obtain ⟨a, b, c, x, l, e, hl⟩ := h
    refine .inr (.inr (.inr (.inr (.inr (.inr (.inr (.inr (.inr (.inr ⟨a, b, c, _, _, by rw [e]; rfl, ?_⟩)))))))))
    intro x hm
    obtain ⟨y, hy, rfl⟩ := List.mem_map.1 hm
    rw [hk]; exact hl y hy

theorem ren_shape {f g : ByteArray} {d : Nat} {t : Tree} (h : Shape t) : Shape (ren f g d t) := by
  cases d with
  | zero => exact h
  | succ d =>
    unfold ren
    split
    · exact .inl ⟨by simp [leafKinds], rfl, rfl⟩
    · exact shape_map h

theorem ren_all (f g : ByteArray) : ∀ (d : Nat) (t : Tree), All Good d t → All Good d (ren f g d t)
  | 0, _, h => h.elim
  | d + 1, t, h => by
    have hg : Good (ren f g (d + 1) t) := by
      rcases h.1 with rfl | hs
      · exact .inl (by unfold ren; rw [if_neg (fun e => absurd e.1 (by decide))]; rfl)
      · exact .inr (ren_shape hs)
    refine ⟨hg, ?_⟩
    unfold ren
    split
    · intro x hx; cases hx
    · intro x hm
      obtain ⟨y, hy, rfl⟩ := List.mem_map.1 hm
      exact ren_all f g d y (h.2 y hy)
end Go.Proofs.YtlfbmpenekiigaaGreatDoor
