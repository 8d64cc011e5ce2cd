import Derived.Test.YtkhmglikdlgfpaaWrF
/-
New messages: what lies in memory where nothing was said yet.
-/
namespace Go.Proofs.Ytkhmglikdlgfpaa
set_option linter.all false
open Go.RowKit
set_option maxRecDepth 10000

def byteB : List Value → Bs → Bool
  | [], [] => true
  | .int .u8 n :: r, b :: l => decide (n = (b.toNat : Int)) && byteB r l
  | _, _ => false
theorem byteB_out : ∀ {vs : List Value} {l : Bs}, byteB vs l = true → vs = l.map byteV
  | [], [], _ => rfl
  | .int .u8 n :: r, b :: l, h => by
    unfold byteB at h
    simp only [Bool.and_eq_true, decide_eq_true_eq] at h
    rw [List.map_cons, ← byteB_out h.2, h.1]; rfl

/-- Do these cells say d, without a pointer. -/
def repKB : K → D → List Value → Bool
  | .bool, .bool b, [.bool c] => decide (c = b)
  | .i8, .int n, [.int .i8 m] => decide (m = n)
  | .i16, .int n, [.int .i16 m] => decide (m = n)
  | .i32, .int n, [.int .i32 m] => decide (m = n)
  | .i64, .int n, [.int .i64 m] => decide (m = n)
  | .u16, .int n, [.int .u16 m] => decide (m = n)
  | .f64, .f64 n, [.float .f64 m] => decide (m = n)
  | .uuid, .uuid l, vs => decide (l.length = 16) && byteB vs l
  | .text, .str [], [.string ⟨⟨[]⟩⟩] => true
  | .bytes, .bytes [], [.slice none 0 _] => true
  | _, _, _ => false
theorem repKB_out {w : World} {G : Nat → Prop} {k : K} {d : D} {vs : List Value} (h : repKB k d vs = true) : RepK w G k d vs := by
  unfold repKB at h
  split at h <;> first | cases h | skip
  all_goals (try (simp only [decide_eq_true_eq] at h; subst h; rfl))
  · simp only [Bool.and_eq_true, decide_eq_true_eq] at h
    exact ⟨h.1, byteB_out h.2⟩
  · rfl
  · exact ⟨none, _, rfl, .inl rfl⟩

mutual
def repFB (fl : Bool) : Fld → D → List Value → Bool
  | .mk k _ _ null _ _ of sub => fun d vs => match k with
    | .list => match d, vs with
      | .arr true [], [.slice none 0 _] => true
      | _, _ => false
    | .struct => if null < 0 then match d with
        | .struct ds [] => if fl then decide (vs.length = lsz fl sub + 1) && repLB fl sub ds (vs.take (lsz fl sub)) && (match vs.drop (lsz fl sub) with | [.map none] => true | _ => false) else repLB fl sub ds vs
        | _ => false
      else match d, vs with
        | .pnil, [.pointer none] => true
        | _, _ => false
    | .text => if null < 0 then repKB .text d vs else match d, vs with
      | .nstr none, [.pointer none] => true
      | _, _ => false
    | k => repKB k d vs
def repLB (fl : Bool) : List Fld → List D → List Value → Bool
  | [], [], [] => true
  | f :: r, d :: ds, vs => decide ((vs.take (fsz fl f)).length = fsz fl f) && repFB fl f d (vs.take (fsz fl f)) && repLB fl r ds (vs.drop (fsz fl f))
  | _, _, _ => false
end

/-- The cells of a part. -/
def repSB (fl : Bool) (fs : List Fld) (ds : List D) (vs : List Value) : Bool :=
  repLB fl fs ds (vs.take (lsz fl fs)) && (if fl then (match vs.drop (lsz fl fs) with | [.map none] => true | _ => false) else (vs.drop (lsz fl fs)).isEmpty)

theorem repT_none {w : World} {G : Nat → Prop} : RepT w G true [] [.map none] := by
  unfold RepT; rw [if_pos rfl]; exact ⟨none, rfl, .inl ⟨rfl, rfl⟩, tagOK_nil⟩
theorem repT_no {w : World} {G : Nat → Prop} : RepT w G false [] [] := by
  unfold RepT; rw [if_neg (by decide)]; exact ⟨rfl, rfl⟩

mutual
theorem repFB_out {w : World} {G : Nat → Prop} {fl : Bool} : ∀ {f : Fld} {d : D} {vs : List Value}, repFB fl f d vs = true → RepF w G fl f d vs
  | .mk k a b null c e of sub, d, vs, h => by
    cases k <;> try (unfold repFB at h; unfold RepF; exact repKB_out h)
    · -- text
      unfold repFB at h
      unfold RepF
      dsimp only at h ⊢
      split at h
      · rename_i hn; rw [if_pos hn]; exact repKB_out h
      · rename_i hn
        rw [if_neg hn]
        split at h
        · rfl
        · cases h
    · -- struct
      unfold repFB at h
      unfold RepF
      dsimp only at h ⊢
      split at h
      · rename_i hn
        rw [if_pos hn]
        split at h
        · rename_i ds
          split at h
          · rename_i hfl
            subst hfl
            simp only [Bool.and_eq_true, decide_eq_true_eq] at h
            obtain ⟨⟨h1, h2⟩, h3⟩ := h
            split at h3
            · rename_i hd
              exact ⟨⟨ds, []⟩, rfl, _, _, (List.take_append_drop _ vs).symm, repLB_out h2, by rw [hd]; exact repT_none⟩
            · cases h3
          · rename_i hfl
            have : fl = false := by simpa using hfl
            subst this
            exact ⟨⟨ds, []⟩, rfl, vs, [], (List.append_nil _).symm, repLB_out h, repT_no⟩
        · cases h
      · rename_i hn
        rw [if_neg hn]
        split at h
        · rfl
        · cases h
    · -- list
      unfold repFB at h
      unfold RepF
      dsimp only at h ⊢
      split at h
      · exact ⟨none, _, rfl, rfl, by simp, .inl rfl⟩
      · cases h
theorem repLB_out {w : World} {G : Nat → Prop} {fl : Bool} : ∀ {fs : List Fld} {ds : List D} {vs : List Value}, repLB fl fs ds vs = true → RepL w G fl fs ds vs
  | [], [], [], _ => by unfold RepL; exact ⟨rfl, rfl⟩
  | f :: r, d :: ds, vs, h => by
    unfold repLB at h
    simp only [Bool.and_eq_true, decide_eq_true_eq] at h
    obtain ⟨⟨h1, h2⟩, h3⟩ := h
    unfold RepL
    exact ⟨d, ds, _, _, rfl, (List.take_append_drop _ vs).symm, h1, repFB_out h2, repLB_out h3⟩
  | [], [], _ :: _, h => by unfold repLB at h; cases h
  | [], _ :: _, _, h => by unfold repLB at h; cases h
  | _ :: _, [], _, h => by unfold repLB at h; cases h
end
theorem repSB_out {w : World} {G : Nat → Prop} {fl : Bool} {fs : List Fld} {ds : List D} {vs : List Value} (h : repSB fl fs ds vs = true) : RepS w G fl fs ⟨ds, []⟩ vs := by
  unfold repSB at h
  simp only [Bool.and_eq_true] at h
  obtain ⟨h1, h2⟩ := h
  refine ⟨_, _, (List.take_append_drop (lsz fl fs) vs).symm, repLB_out h1, ?_⟩
  split at h2
  · rename_i hfl
    subst hfl
    split at h2
    · rename_i hd; rw [hd]; exact repT_none
    · cases h2
  · rename_i hfl
    have : fl = false := by simpa using hfl
    subst this
    rw [List.isEmpty_iff] at h2
    rw [h2]; exact repT_no

end Go.Proofs.Ytkhmglikdlgfpaa
