import Derived.Test.YtaohcejbjeaemaaGreatDoorJShaAShaC
import Derived.LoopTactic
namespace Go.Proofs.YtaohcejbjeaemaaGreatDoor
open Go Go.RowKit

/-- A rotation's result. -/
def rotf (k x : Int) : Int := bits .or .u32 (x * (2 ^ (32 + k).toNat) % 4294967296) (x / (2 ^ (-k).toNat))

set_option maxHeartbeats 1000000 in
theorem rotate_f (x k : Int) (hk : k = -17 ∨ k = -19 ∨ k = -7 ∨ k = -18 ∨ k = -6 ∨ k = -11 ∨ k = -25 ∨ k = -2 ∨ k = -13 ∨ k = -22) (w : World) :
    Calls Tryz.prog 302 #[.int .u32 x, .int .i64 k] w fun e w' => e = .returned (.int .u32 (rotf k x)) ∧ w' = w := by
  have e17 : bits .and .u64 (IntKind.u64.wrap (-17)) 31 = 15 := by decide +kernel
  have e19 : bits .and .u64 (IntKind.u64.wrap (-19)) 31 = 13 := by decide +kernel
  have e7 : bits .and .u64 (IntKind.u64.wrap (-7)) 31 = 25 := by decide +kernel
  have e18 : bits .and .u64 (IntKind.u64.wrap (-18)) 31 = 14 := by decide +kernel
  have e6 : bits .and .u64 (IntKind.u64.wrap (-6)) 31 = 26 := by decide +kernel
  have e11 : bits .and .u64 (IntKind.u64.wrap (-11)) 31 = 21 := by decide +kernel
  have e25 : bits .and .u64 (IntKind.u64.wrap (-25)) 31 = 7 := by decide +kernel
  have e2 : bits .and .u64 (IntKind.u64.wrap (-2)) 31 = 30 := by decide +kernel
  have e13 : bits .and .u64 (IntKind.u64.wrap (-13)) 31 = 19 := by decide +kernel
  have e22 : bits .and .u64 (IntKind.u64.wrap (-22)) 31 = 10 := by decide +kernel
  rcases hk with rfl | rfl | rfl | rfl | rfl | rfl | rfl | rfl | rfl | rfl <;>
  · go_enter Tryz.func302, Tryz.ntmps302
    go_wp2
    go_ret
    exact ⟨by simp [rotf], rfl⟩
theorem rotate_w (x k : Int) (hk : k = -17 ∨ k = -19 ∨ k = -7 ∨ k = -18 ∨ k = -6 ∨ k = -11 ∨ k = -25 ∨ k = -2 ∨ k = -13 ∨ k = -22) (w : World) :
    Calls Tryz.prog 302 #[.int .u32 x, .int .i64 k] w fun e w' => e = .returned (.int .u32 (rotf k x)) ∧ w = w' :=
  (rotate_f x k hk w).mono fun _ _ h => ⟨h.1, h.2.symm⟩

/-- 64 words. -/
def Words (w : World) (g : Nat) : Prop := ∃ c, w.heap[g]? = some (.cells c 342 (0, 0)) ∧ c.size = 64 ∧ ∀ i, i < 64 → ∃ n, c[i]? = some (.int .u32 n)

/-- The schedule's block goes on, what was there before is as it was. -/
structure BGen (w wr : World) : Prop where
  below : Below w.heap.size w wr
  words : Words wr w.heap.size

theorem BGen.cell {w wr : World} (h : BGen w wr) {b o : Nat} {v : Value} (hc : w.cell? ⟨b, o, none⟩ = some v) : wr.cell? ⟨b, o, none⟩ = some v := (World.cell?_of_block (a := ⟨b, o, none⟩) (h.below.block b (World.block_lt_of_cell? _ _ hc))).trans hc
theorem BGen.word {w wr : World} (h : BGen w wr) (i : Nat) (hi : i < 64) : ∃ n, wr.cell? ⟨w.heap.size, i, none⟩ = some (.int .u32 n) := by
  obtain ⟨c, h1, h2, h3⟩ := h.words
  obtain ⟨n, hn⟩ := h3 i hi
  exact ⟨n, (cell_at h1 i).trans hn⟩
theorem BGen.free {w wr : World} (h : BGen w wr) (i : Nat) : wr.frozen? ⟨w.heap.size, i, none⟩ = false := by
  obtain ⟨c, h1, _⟩ := h.words
  exact free_at h1 i
theorem BGen.drewN {w wr : World} (h : BGen w wr) (n : Nat) : BGen w (wr.drewN n) := by
  obtain ⟨c, h1, h2⟩ := h.words
  exact ⟨Kept.below ((kept_of_below h.below).drewN n), c, block_drewN h1 n, h2⟩
theorem BGen.drew {w wr : World} (h : BGen w wr) : BGen w wr.drew := by
  obtain ⟨c, h1, h2⟩ := h.words
  exact ⟨h.below.drew, c, block_drew h1, h2⟩
theorem BGen.set {w wr : World} (h : BGen w wr) (i : Nat) (n : Int) : BGen w (wr.setCell ⟨w.heap.size, i, none⟩ (.int .u32 n)) := by
  obtain ⟨c, h1, h2, h3⟩ := h.words
  refine ⟨Kept.below ((kept_of_below h.below).setCell (p := ⟨w.heap.size, i, none⟩) (Nat.lt_irrefl _) _), _, block_setCell h1 i _, by simp [h2], fun j hj => ?_⟩
  rw [Array.getElem?_setIfInBounds]
  split
  · rename_i e; subst e; exact ⟨n, by rw [if_pos (by omega)]⟩
  · exact h3 j hj
theorem BGen.made (w : World) (n : Nat) (c : Array Value) (e : c = (List.replicate 64 (Value.int .u32 0)).toArray) : BGen w ((w.alloc (.cells c 342)).drewN n) := by
  refine ⟨Kept.below ((kept_of_below ((Below.refl _ _).alloc (Nat.le_refl _) _)).drewN n), _, block_drewN (block_new _ _) n, by rw [e]; simp, fun i hi => ⟨0, ?_⟩⟩
  rw [e, List.getElem?_toArray, List.getElem?_replicate, if_pos hi]

/-- A slice of bytes that is read, wherever it lies. -/
def Bytes64 (wA : World) (pb po n : Nat) : Prop := ∀ i, i < n → ∃ y, wA.cell? ⟨pb, po + i, none⟩ = some (.int .u8 y)
/-- The table of the rounds' words. -/
def TableAt (w : World) : Prop := ∀ i, i < 64 → ∃ n, w.cell? ⟨3, i, none⟩ = some (.int .u32 n)
end Go.Proofs.YtaohcejbjeaemaaGreatDoor
namespace Go.Proofs.YtaohcejbjeaemaaGreatDoor
open Go Go.RowKit

/-- The first loop in a function's text. -/
def firstLoop : Code → Option Code
  | .loop c => some c
  | .seq a b => match firstLoop a with
    | some c => some c
    | none => firstLoop b
  | .block _ c => firstLoop c
  | .scope c => firstLoop c
  | .cond _ a b => match firstLoop a with
    | some c => some c
    | none => firstLoop b
  | _ => none
/-- The bodies of blockGeneric's loops. -/
noncomputable def blkOuter : Code := (Tryz.f231.body.bind firstLoop).getD .skip
noncomputable def blkInner : Code := (firstLoop blkOuter).getD .skip

def lenOf : Value → Nat
  | .slice _ n _ => n
  | _ => 0

set_option maxRecDepth 100000 in
theorem open_frame {a : Act} (h : a.tmps.size = 283) (hd : a.defers = []) : ∃ f : Nat → Value, (∀ i, a.tmps.getD i undef = f i) ∧ a = ⟨(f 0 :: f 1 :: f 2 :: f 3 :: f 4 :: f 5 :: f 6 :: f 7 :: f 8 :: f 9 :: f 10 :: f 11 :: f 12 :: f 13 :: f 14 :: f 15 :: f 16 :: f 17 :: f 18 :: f 19 :: f 20 :: f 21 :: f 22 :: f 23 :: f 24 :: f 25 :: f 26 :: f 27 :: f 28 :: f 29 :: f 30 :: f 31 :: f 32 :: f 33 :: f 34 :: f 35 :: f 36 :: f 37 :: f 38 :: f 39 :: f 40 :: f 41 :: f 42 :: f 43 :: f 44 :: f 45 :: f 46 :: f 47 :: f 48 :: f 49 :: f 50 :: f 51 :: f 52 :: f 53 :: f 54 :: f 55 :: f 56 :: f 57 :: f 58 :: f 59 :: f 60 :: f 61 :: f 62 :: f 63 :: f 64 :: f 65 :: f 66 :: f 67 :: f 68 :: f 69 :: f 70 :: f 71 :: f 72 :: f 73 :: f 74 :: f 75 :: f 76 :: f 77 :: f 78 :: f 79 :: f 80 :: f 81 :: f 82 :: f 83 :: f 84 :: f 85 :: f 86 :: f 87 :: f 88 :: f 89 :: f 90 :: f 91 :: f 92 :: f 93 :: f 94 :: f 95 :: f 96 :: f 97 :: f 98 :: f 99 :: f 100 :: f 101 :: f 102 :: f 103 :: f 104 :: f 105 :: f 106 :: f 107 :: f 108 :: f 109 :: f 110 :: f 111 :: f 112 :: f 113 :: f 114 :: f 115 :: f 116 :: f 117 :: f 118 :: f 119 :: f 120 :: f 121 :: f 122 :: f 123 :: f 124 :: f 125 :: f 126 :: f 127 :: f 128 :: f 129 :: f 130 :: f 131 :: f 132 :: f 133 :: f 134 :: f 135 :: f 136 :: f 137 :: f 138 :: f 139 :: f 140 :: f 141 :: f 142 :: f 143 :: f 144 :: f 145 :: f 146 :: f 147 :: f 148 :: f 149 :: f 150 :: f 151 :: f 152 :: f 153 :: f 154 :: f 155 :: f 156 :: f 157 :: f 158 :: f 159 :: f 160 :: f 161 :: f 162 :: f 163 :: f 164 :: f 165 :: f 166 :: f 167 :: f 168 :: f 169 :: f 170 :: f 171 :: f 172 :: f 173 :: f 174 :: f 175 :: f 176 :: f 177 :: f 178 :: f 179 :: f 180 :: f 181 :: f 182 :: f 183 :: f 184 :: f 185 :: f 186 :: f 187 :: f 188 :: f 189 :: f 190 :: f 191 :: f 192 :: f 193 :: f 194 :: f 195 :: f 196 :: f 197 :: f 198 :: f 199 :: f 200 :: f 201 :: f 202 :: f 203 :: f 204 :: f 205 :: f 206 :: f 207 :: f 208 :: f 209 :: f 210 :: f 211 :: f 212 :: f 213 :: f 214 :: f 215 :: f 216 :: f 217 :: f 218 :: f 219 :: f 220 :: f 221 :: f 222 :: f 223 :: f 224 :: f 225 :: f 226 :: f 227 :: f 228 :: f 229 :: f 230 :: f 231 :: f 232 :: f 233 :: f 234 :: f 235 :: f 236 :: f 237 :: f 238 :: f 239 :: f 240 :: f 241 :: f 242 :: f 243 :: f 244 :: f 245 :: f 246 :: f 247 :: f 248 :: f 249 :: f 250 :: f 251 :: f 252 :: f 253 :: f 254 :: f 255 :: f 256 :: f 257 :: f 258 :: f 259 :: f 260 :: f 261 :: f 262 :: f 263 :: f 264 :: f 265 :: f 266 :: f 267 :: f 268 :: f 269 :: f 270 :: f 271 :: f 272 :: f 273 :: f 274 :: f 275 :: f 276 :: f 277 :: f 278 :: f 279 :: f 280 :: f 281 :: f 282 :: []).toArray, []⟩ := by
  obtain ⟨f, hf⟩ : ∃ f : Nat → Value, ∀ i, a.tmps.getD i undef = f i := ⟨_, fun _ => rfl⟩
  refine ⟨f, hf, ?_⟩
  have e : ((List.range 283).map f).toArray = (f 0 :: f 1 :: f 2 :: f 3 :: f 4 :: f 5 :: f 6 :: f 7 :: f 8 :: f 9 :: f 10 :: f 11 :: f 12 :: f 13 :: f 14 :: f 15 :: f 16 :: f 17 :: f 18 :: f 19 :: f 20 :: f 21 :: f 22 :: f 23 :: f 24 :: f 25 :: f 26 :: f 27 :: f 28 :: f 29 :: f 30 :: f 31 :: f 32 :: f 33 :: f 34 :: f 35 :: f 36 :: f 37 :: f 38 :: f 39 :: f 40 :: f 41 :: f 42 :: f 43 :: f 44 :: f 45 :: f 46 :: f 47 :: f 48 :: f 49 :: f 50 :: f 51 :: f 52 :: f 53 :: f 54 :: f 55 :: f 56 :: f 57 :: f 58 :: f 59 :: f 60 :: f 61 :: f 62 :: f 63 :: f 64 :: f 65 :: f 66 :: f 67 :: f 68 :: f 69 :: f 70 :: f 71 :: f 72 :: f 73 :: f 74 :: f 75 :: f 76 :: f 77 :: f 78 :: f 79 :: f 80 :: f 81 :: f 82 :: f 83 :: f 84 :: f 85 :: f 86 :: f 87 :: f 88 :: f 89 :: f 90 :: f 91 :: f 92 :: f 93 :: f 94 :: f 95 :: f 96 :: f 97 :: f 98 :: f 99 :: f 100 :: f 101 :: f 102 :: f 103 :: f 104 :: f 105 :: f 106 :: f 107 :: f 108 :: f 109 :: f 110 :: f 111 :: f 112 :: f 113 :: f 114 :: f 115 :: f 116 :: f 117 :: f 118 :: f 119 :: f 120 :: f 121 :: f 122 :: f 123 :: f 124 :: f 125 :: f 126 :: f 127 :: f 128 :: f 129 :: f 130 :: f 131 :: f 132 :: f 133 :: f 134 :: f 135 :: f 136 :: f 137 :: f 138 :: f 139 :: f 140 :: f 141 :: f 142 :: f 143 :: f 144 :: f 145 :: f 146 :: f 147 :: f 148 :: f 149 :: f 150 :: f 151 :: f 152 :: f 153 :: f 154 :: f 155 :: f 156 :: f 157 :: f 158 :: f 159 :: f 160 :: f 161 :: f 162 :: f 163 :: f 164 :: f 165 :: f 166 :: f 167 :: f 168 :: f 169 :: f 170 :: f 171 :: f 172 :: f 173 :: f 174 :: f 175 :: f 176 :: f 177 :: f 178 :: f 179 :: f 180 :: f 181 :: f 182 :: f 183 :: f 184 :: f 185 :: f 186 :: f 187 :: f 188 :: f 189 :: f 190 :: f 191 :: f 192 :: f 193 :: f 194 :: f 195 :: f 196 :: f 197 :: f 198 :: f 199 :: f 200 :: f 201 :: f 202 :: f 203 :: f 204 :: f 205 :: f 206 :: f 207 :: f 208 :: f 209 :: f 210 :: f 211 :: f 212 :: f 213 :: f 214 :: f 215 :: f 216 :: f 217 :: f 218 :: f 219 :: f 220 :: f 221 :: f 222 :: f 223 :: f 224 :: f 225 :: f 226 :: f 227 :: f 228 :: f 229 :: f 230 :: f 231 :: f 232 :: f 233 :: f 234 :: f 235 :: f 236 :: f 237 :: f 238 :: f 239 :: f 240 :: f 241 :: f 242 :: f 243 :: f 244 :: f 245 :: f 246 :: f 247 :: f 248 :: f 249 :: f 250 :: f 251 :: f 252 :: f 253 :: f 254 :: f 255 :: f 256 :: f 257 :: f 258 :: f 259 :: f 260 :: f 261 :: f 262 :: f 263 :: f 264 :: f 265 :: f 266 :: f 267 :: f 268 :: f 269 :: f 270 :: f 271 :: f 272 :: f 273 :: f 274 :: f 275 :: f 276 :: f 277 :: f 278 :: f 279 :: f 280 :: f 281 :: f 282 :: []).toArray := by kernel_rfl
  rw [← e]
  clear e
  obtain ⟨t, d⟩ := a
  simp only at h hd hf
  subst hd
  have e : t = ((List.range 283).map f).toArray := by
    apply Array.ext_getElem?
    intro i
    rw [show (((List.range 283).map f).toArray)[i]? = ((List.range 283).map f)[i]? from List.getElem?_toArray, List.getElem?_map]
    by_cases hi : i < 283
    · rw [List.getElem?_range hi, Option.map_some, ← hf i, Array.getElem?_eq_getElem (by omega)]
      simp [Array.getD, h, hi]
    · rw [List.getElem?_eq_none (by simp; omega), Option.map_none, Array.getElem?_eq_none (by omega)]
  rw [e]

/-- The inner loop's state: i at slot 80. -/
structure InnerI (w : World) (b pb po n k : Nat) (j : Nat) (a : Act) (ws : World) : Prop where
  size : a.tmps.size = 283
  defers : a.defers = []
  s0 : a.tmps.getD 0 undef = .pointer (some ⟨b, 0, none⟩)
  s1 : a.tmps.getD 1 undef = .slice (some ⟨pb, po, none⟩) n k
  s4 : a.tmps.getD 4 undef = .pointer (some ⟨w.heap.size, 0, none⟩)
  ints : ∀ i, 5 ≤ i → i ≤ 20 → ∃ m, a.tmps.getD i undef = .int .u32 m
  s80 : a.tmps.getD 80 undef = .int .i64 j
  gen : BGen w ws

/-- The outer loop's state. -/
structure OuterI (w : World) (b pb po n k : Nat) (a : Act) (ws : World) : Prop where
  size : a.tmps.size = 283
  defers : a.defers = []
  s0 : a.tmps.getD 0 undef = .pointer (some ⟨b, 0, none⟩)
  s1 : a.tmps.getD 1 undef = .slice (some ⟨pb, po, none⟩) n k
  s4 : a.tmps.getD 4 undef = .pointer (some ⟨w.heap.size, 0, none⟩)
  ints : ∀ i, 5 ≤ i → i ≤ 12 → ∃ m, a.tmps.getD i undef = .int .u32 m
  gen : BGen w ws
end Go.Proofs.YtaohcejbjeaemaaGreatDoor
